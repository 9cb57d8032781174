import JvmDerived
import JvmDerived.Pilot.@@N@@Statement
import JvmDerived.Pilot.@@N@@Code
set_option linter.unusedVariables false
set_option linter.unusedSimpArgs false
namespace Jvm.Pilot.@@N@@
open Jvm Jvm.ClassFile Sem Op Lib Jvm.Free Jvm.Stand Jvm.LawKit Jvm.RoadKit Bundle Jvm.Pilot.@@N@@.Jvm.D
def own_Ends (tb : Tables) (e : Env) (below : List Frame) (P : Outcome → State → Prop) (S : State) : Prop := ∃ t o, Steps tb e below S t ∧ t.status = .running ∧ Ended t below o ∧ P o t
theorem own_to {tb : Tables} {e : Env} {below : List Frame} {P : Outcome → State → Prop} {S S' : State} (h : ∀ target, Steps tb e below S' target → Steps tb e below S target) (g : own_Ends tb e below P S') : own_Ends tb e below P S := by
  obtain ⟨t, o, h1, r⟩ := g
  exact ⟨t, o, h _ h1, r⟩
theorem own_tr {tb : Tables} {e : Env} {below : List Frame} {P : Outcome → State → Prop} {S S' : State} (h : Steps tb e below S S') (g : own_Ends tb e below P S') : own_Ends tb e below P S := by
  obtain ⟨t, o, h1, r⟩ := g
  exact ⟨t, o, h.trans h1, r⟩
theorem own_cast {tb : Tables} {e : Env} {below : List Frame} {P : Outcome → State → Prop} {T : State} {f f' : JFrame} (q : f = f') (g : own_Ends tb e below P (T.setTop f')) : own_Ends tb e below P (T.setTop f) := q ▸ g
def own_P (s : State) (Q : Option Value → Heap → List Loc → Prop) (ck sk : Nat) : Outcome → State → Prop := fun o U' => ∃ v L, o = .returned v ∧ Q v U'.heap L ∧ FrameEnd s o U' L ck sk
theorem own_leave {p : Program} {l : Launch} {e : Env} {R : Room} {s : State} {m : MethodId} {args : Array Value} {below : List Frame} {meth : Method} {c : Code} {T : State} {locs : List Loc} {cells slots : Nat} {F : JFrame} {Q : Option Value → Heap → List Loc → Prop} {ck sk : Nat}
    (X : Stand p l e R s m args below meth c T locs cells slots) {v : Option Value} (hv : meth.sig.returnType = none → v = none) (hQ : Q v T.heap locs) (hc : cells ≤ ck) (hs : slots ≤ sk)
    (hst : ∀ fs, (∀ (f : JFrame) (acts : List Action), f.method = m → f.locked = none → f.entered = [] → (doReturn e (T.setTop f) acts v).1 = T.setFrames fs) → Steps p.tables e below (T.setTop F) (T.setFrames fs)) (hlocks : meth.locks = false := by first | assumption | exact BodyLoose.notSynchronized (by assumption) | exact Body.notSynchronized (by assumption)) : own_Ends p.tables e below (own_P s Q ck sk) (T.setTop F) := by
  obtain ⟨fs, hr, hrun, hended, hW, hsame⟩ := X.leave hv hlocks
  exact ⟨_, _, hst fs hr, hrun, hended, _, _, rfl, hQ, ⟨_, rfl⟩, hW, hsame.mono hc hs⟩
def own_PW (s : State) (Q : Option Value → Heap → List Loc → Prop) (ck sk : Nat) : Outcome → State → Prop := fun o U' => ∃ v L, o = .returned v ∧ Q v U'.heap L ∧ ReturnedEndW s o U' L ck sk
theorem own_leaveW {p : Program} {l : Launch} {e : Env} {R : Room} {s : State} {vm1 : Vm} {m : MethodId} {args : Array Value} {below : List Frame} {meth : Method} {c : Code} {T : State} {locs : List Loc} {cells slots : Nat} {F : JFrame} {Q : Option Value → Heap → List Loc → Prop} {ck sk k0 : Nat}
    (X : Stand p l e R (s.setVm vm1) m args below meth c T locs cells slots) (hS : s.Since vm1 k0) (hk : k0 ≤ T.heap.size) {v : Option Value} (hv : meth.sig.returnType = none → v = none) (hQ : Q v T.heap locs) (hc : cells ≤ ck) (hs : slots ≤ sk)
    (hst : ∀ fs, (∀ (f : JFrame) (acts : List Action), f.method = m → f.locked = none → f.entered = [] → (doReturn e (T.setTop f) acts v).1 = T.setFrames fs) → Steps p.tables e below (T.setTop F) (T.setFrames fs)) (hlocks : meth.locks = false := by first | assumption | exact BodyLoose.notSynchronized (by assumption) | exact Body.notSynchronized (by assumption)) : own_Ends p.tables e below (own_PW s Q ck sk) (T.setTop F) := by
  obtain ⟨fs, hr, hrun, hended, h1, h2, h3, h4⟩ := X.leaveW hS hk hv hlocks
  exact ⟨_, _, hst fs hr, hrun, hended, _, _, rfl, hQ, h1, h2, h3, h4.mono hc hs⟩
theorem own_old_le {Z : State} {n0 : Nat} {h : Heap} (O : Old Z n0 h) : n0 ≤ h.size := O.1 ▸ O.2.1
theorem own_le {a b : Nat} (h : Nat.ble a b = true) : a ≤ b := Nat.le_of_ble_eq_true h
theorem own_lt {a b : Nat} (h : Nat.ble (a + 1) b = true) : a < b := Nat.le_of_ble_eq_true h
theorem own_irr (x : Int32) : ¬ x < x := by rw [Int32.lt_iff_toInt_lt]; omega
theorem own_eqI {args : Array Value} {s : State} {t : Term} {k : Int32} (h : (Jvm.Cond.eq t (.int k)).value args s none s [] = some true) : t.eval args s none [] s = some (.int k) := by
  obtain ⟨x, y, hx, hy, -, hk⟩ := cmp_v (Or.inl h)
  cases (show some (Value.int k) = some y from hy)
  obtain ⟨z, rfl⟩ := hk
  have e : (Term.int k).eval args s none [] s = some (.int k) := rfl
  simp only [Cond.value, hx, e, Option.some.injEq, decide_eq_true_eq] at h
  rw [hx]
  simp_all
theorem own_intne {a b : Int32} (h : a ≠ b) : Value.int a ≠ Value.int b := fun q => h (Value.int.inj q)

abbrev oM0 : MethodName := ⟨"com/example/routeward/routeward/spl/Eligibility", "of", "(Lcom/example/routeward/routeward/rov/RoaState;Lcom/example/routeward/routeward/spl/SplState;)Lcom/example/routeward/routeward/spl/Eligibility;"⟩
theorem ow0 {Z : State} {a0 : Array Value} (hw : ∀ d ∈ tables_1, d.before a0 Z = true) : (Jvm.Cond.constant "com/example/routeward/routeward/spl/EligibilityOfPinLaw" (7 : Nat) (2147483647 : Int32)).before a0 Z = true := hw _ (List.mem_of_getElem? (i := 0) rfl)
theorem ow1 {Z : State} {a0 : Array Value} (hw : ∀ d ∈ tables_1, d.before a0 Z = true) : (Jvm.Cond.fieldLink "com/example/routeward/routeward/spl/EligibilityOfPinLaw" (8 : Nat) "com/example/routeward/routeward/rov/RoaState" "VALID" "Lcom/example/routeward/routeward/rov/RoaState;").before a0 Z = true := hw _ (List.mem_of_getElem? (i := 1) rfl)
theorem ow2 {Z : State} {a0 : Array Value} (hw : ∀ d ∈ tables_1, d.before a0 Z = true) : (Jvm.Cond.initialized "com/example/routeward/routeward/rov/RoaState").before a0 Z = true := hw _ (List.mem_of_getElem? (i := 2) rfl)
theorem ow3 {Z : State} {a0 : Array Value} (hw : ∀ d ∈ tables_1, d.before a0 Z = true) : (Jvm.Cond.laysStatic "com/example/routeward/routeward/rov/RoaState" "VALID" "Lcom/example/routeward/routeward/rov/RoaState;").before a0 Z = true := hw _ (List.mem_of_getElem? (i := 3) rfl)
theorem ow4 {Z : State} {a0 : Array Value} (hw : ∀ d ∈ tables_1, d.before a0 Z = true) : (Jvm.Cond.fieldLink "com/example/routeward/routeward/spl/EligibilityOfPinLaw" (20 : Nat) "com/example/routeward/routeward/spl/SplState" "VALID" "Lcom/example/routeward/routeward/spl/SplState;").before a0 Z = true := hw _ (List.mem_of_getElem? (i := 4) rfl)
theorem ow5 {Z : State} {a0 : Array Value} (hw : ∀ d ∈ tables_1, d.before a0 Z = true) : (Jvm.Cond.initialized "com/example/routeward/routeward/spl/SplState").before a0 Z = true := hw _ (List.mem_of_getElem? (i := 5) rfl)
theorem ow6 {Z : State} {a0 : Array Value} (hw : ∀ d ∈ tables_1, d.before a0 Z = true) : (Jvm.Cond.laysStatic "com/example/routeward/routeward/spl/SplState" "VALID" "Lcom/example/routeward/routeward/spl/SplState;").before a0 Z = true := hw _ (List.mem_of_getElem? (i := 6) rfl)
theorem ow7 {Z : State} {a0 : Array Value} (hw : ∀ d ∈ tables_1, d.before a0 Z = true) : (Jvm.Cond.arrayClass Jvm.ClassFile.FieldType.boolean).before a0 Z = true := hw _ (List.mem_of_getElem? (i := 7) rfl)
theorem ow8 {Z : State} {a0 : Array Value} (hw : ∀ d ∈ tables_1, d.before a0 Z = true) : (Jvm.Cond.fieldLink "com/example/routeward/routeward/spl/EligibilityOfPinLaw" (35 : Nat) "com/example/routeward/routeward/spl/Eligibility" "ELIGIBLE" "Lcom/example/routeward/routeward/spl/Eligibility;").before a0 Z = true := hw _ (List.mem_of_getElem? (i := 8) rfl)
theorem ow9 {Z : State} {a0 : Array Value} (hw : ∀ d ∈ tables_1, d.before a0 Z = true) : (Jvm.Cond.initialized "com/example/routeward/routeward/spl/Eligibility").before a0 Z = true := hw _ (List.mem_of_getElem? (i := 9) rfl)
theorem ow10 {Z : State} {a0 : Array Value} (hw : ∀ d ∈ tables_1, d.before a0 Z = true) : (Jvm.Cond.laysStatic "com/example/routeward/routeward/spl/Eligibility" "ELIGIBLE" "Lcom/example/routeward/routeward/spl/Eligibility;").before a0 Z = true := hw _ (List.mem_of_getElem? (i := 10) rfl)
theorem ow11 {Z : State} {a0 : Array Value} (hw : ∀ d ∈ tables_1, d.before a0 Z = true) : (Jvm.Cond.methodLink "com/example/routeward/routeward/spl/EligibilityOfPinLaw" (38 : Nat) ({ cls := "com/example/routeward/routeward/spl/Eligibility", name := "of", desc := "(Lcom/example/routeward/routeward/rov/RoaState;Lcom/example/routeward/routeward/spl/SplState;)Lcom/example/routeward/routeward/spl/Eligibility;" } : Jvm.MethodName)).before a0 Z = true := hw _ (List.mem_of_getElem? (i := 11) rfl)
theorem ow12 {Z : State} {a0 : Array Value} (hw : ∀ d ∈ tables_1, d.before a0 Z = true) : (Jvm.Cond.static ({ cls := "com/example/routeward/routeward/spl/Eligibility", name := "of", desc := "(Lcom/example/routeward/routeward/rov/RoaState;Lcom/example/routeward/routeward/spl/SplState;)Lcom/example/routeward/routeward/spl/Eligibility;" } : Jvm.MethodName)).before a0 Z = true := hw _ (List.mem_of_getElem? (i := 12) rfl)
theorem ow13 {Z : State} {a0 : Array Value} (hw : ∀ d ∈ tables_1, d.before a0 Z = true) : (Jvm.Cond.code ({ cls := "com/example/routeward/routeward/spl/Eligibility", name := "of", desc := "(Lcom/example/routeward/routeward/rov/RoaState;Lcom/example/routeward/routeward/spl/SplState;)Lcom/example/routeward/routeward/spl/Eligibility;" } : Jvm.MethodName) prog_34_method_4_code (2 : Nat) (Option.some (Jvm.ClassFile.FieldType.object "com/example/routeward/routeward/spl/Eligibility"))).before a0 Z = true := hw _ (List.mem_of_getElem? (i := 13) rfl)
theorem ow14 {Z : State} {a0 : Array Value} (hw : ∀ d ∈ tables_1, d.before a0 Z = true) : (Jvm.Cond.fieldLink "com/example/routeward/routeward/spl/Eligibility" (33 : Nat) "com/example/routeward/routeward/rov/RoaState" "INVALID" "Lcom/example/routeward/routeward/rov/RoaState;").before a0 Z = true := hw _ (List.mem_of_getElem? (i := 14) rfl)
theorem ow15 {Z : State} {a0 : Array Value} (hw : ∀ d ∈ tables_1, d.before a0 Z = true) : (Jvm.Cond.laysStatic "com/example/routeward/routeward/rov/RoaState" "INVALID" "Lcom/example/routeward/routeward/rov/RoaState;").before a0 Z = true := hw _ (List.mem_of_getElem? (i := 15) rfl)
theorem ow16 {Z : State} {a0 : Array Value} (hw : ∀ d ∈ tables_1, d.before a0 Z = true) : (Jvm.Cond.fieldLink "com/example/routeward/routeward/spl/Eligibility" (39 : Nat) "com/example/routeward/routeward/spl/SplState" "INVALID" "Lcom/example/routeward/routeward/spl/SplState;").before a0 Z = true := hw _ (List.mem_of_getElem? (i := 16) rfl)
theorem ow17 {Z : State} {a0 : Array Value} (hw : ∀ d ∈ tables_1, d.before a0 Z = true) : (Jvm.Cond.laysStatic "com/example/routeward/routeward/spl/SplState" "INVALID" "Lcom/example/routeward/routeward/spl/SplState;").before a0 Z = true := hw _ (List.mem_of_getElem? (i := 17) rfl)
theorem ow18 {Z : State} {a0 : Array Value} (hw : ∀ d ∈ tables_1, d.before a0 Z = true) : (Jvm.Cond.fieldLink "com/example/routeward/routeward/spl/Eligibility" (3 : Nat) "com/example/routeward/routeward/spl/Eligibility" "ELIGIBLE" "Lcom/example/routeward/routeward/spl/Eligibility;").before a0 Z = true := hw _ (List.mem_of_getElem? (i := 18) rfl)
theorem ow19 {Z : State} {a0 : Array Value} (hw : ∀ d ∈ tables_1, d.before a0 Z = true) : (Jvm.Cond.fieldLink "com/example/routeward/routeward/spl/EligibilityOfPinLaw" (17 : Nat) "com/example/routeward/routeward/rov/RoaState" "NOT_FOUND" "Lcom/example/routeward/routeward/rov/RoaState;").before a0 Z = true := hw _ (List.mem_of_getElem? (i := 19) rfl)
theorem ow20 {Z : State} {a0 : Array Value} (hw : ∀ d ∈ tables_1, d.before a0 Z = true) : (Jvm.Cond.laysStatic "com/example/routeward/routeward/rov/RoaState" "NOT_FOUND" "Lcom/example/routeward/routeward/rov/RoaState;").before a0 Z = true := hw _ (List.mem_of_getElem? (i := 20) rfl)
theorem ow21 {Z : State} {a0 : Array Value} (hw : ∀ d ∈ tables_1, d.before a0 Z = true) : (Jvm.Cond.fieldLink "com/example/routeward/routeward/spl/EligibilityOfPinLaw" (25 : Nat) "com/example/routeward/routeward/spl/SplState" "INVALID" "Lcom/example/routeward/routeward/spl/SplState;").before a0 Z = true := hw _ (List.mem_of_getElem? (i := 21) rfl)
theorem ow22 {Z : State} {a0 : Array Value} (hw : ∀ d ∈ tables_1, d.before a0 Z = true) : (Jvm.Cond.fieldLink "com/example/routeward/routeward/spl/EligibilityOfPinLaw" (29 : Nat) "com/example/routeward/routeward/spl/Eligibility" "INELIGIBLE" "Lcom/example/routeward/routeward/spl/Eligibility;").before a0 Z = true := hw _ (List.mem_of_getElem? (i := 22) rfl)
theorem ow23 {Z : State} {a0 : Array Value} (hw : ∀ d ∈ tables_1, d.before a0 Z = true) : (Jvm.Cond.laysStatic "com/example/routeward/routeward/spl/Eligibility" "INELIGIBLE" "Lcom/example/routeward/routeward/spl/Eligibility;").before a0 Z = true := hw _ (List.mem_of_getElem? (i := 23) rfl)
theorem ow24 {Z : State} {a0 : Array Value} (hw : ∀ d ∈ tables_1, d.before a0 Z = true) : (Jvm.Cond.fieldLink "com/example/routeward/routeward/spl/Eligibility" (7 : Nat) "com/example/routeward/routeward/spl/Eligibility" "INELIGIBLE" "Lcom/example/routeward/routeward/spl/Eligibility;").before a0 Z = true := hw _ (List.mem_of_getElem? (i := 24) rfl)
theorem ow25 {Z : State} {a0 : Array Value} (hw : ∀ d ∈ tables_1, d.before a0 Z = true) : (Jvm.Cond.fieldLink "com/example/routeward/routeward/spl/EligibilityOfPinLaw" (27 : Nat) "com/example/routeward/routeward/spl/SplState" "NOT_FOUND" "Lcom/example/routeward/routeward/spl/SplState;").before a0 Z = true := hw _ (List.mem_of_getElem? (i := 25) rfl)
theorem ow26 {Z : State} {a0 : Array Value} (hw : ∀ d ∈ tables_1, d.before a0 Z = true) : (Jvm.Cond.laysStatic "com/example/routeward/routeward/spl/SplState" "NOT_FOUND" "Lcom/example/routeward/routeward/spl/SplState;").before a0 Z = true := hw _ (List.mem_of_getElem? (i := 26) rfl)
theorem ow27 {Z : State} {a0 : Array Value} (hw : ∀ d ∈ tables_1, d.before a0 Z = true) : (Jvm.Cond.fieldLink "com/example/routeward/routeward/spl/EligibilityOfPinLaw" (14 : Nat) "com/example/routeward/routeward/rov/RoaState" "INVALID" "Lcom/example/routeward/routeward/rov/RoaState;").before a0 Z = true := hw _ (List.mem_of_getElem? (i := 27) rfl)
theorem own_mod3 (x : Int32) : (x &&& (2147483647 : Int32)) % (3 : Int32) = 0 ∨ (x &&& (2147483647 : Int32)) % (3 : Int32) = 1 ∨ (x &&& (2147483647 : Int32)) % (3 : Int32) = 2 := by
  have h := c_and x 2147483647 (by decide)
  have g := (c_irem (x &&& 2147483647) 3 3 (by decide)).1 h.1
  simp only [← Int32.toInt_inj, show (0 : Int32).toInt = 0 by decide, show (1 : Int32).toInt = 1 by decide, show (2 : Int32).toInt = 2 by decide]
  omega
def own_of (a b ri si i e : Addr) : Addr := if a = ri then i else if b = si then i else e
theorem own_of1 {b ri si i e : Addr} : own_of ri b ri si i e = i := if_pos rfl
theorem own_of2 {a ri si i e : Addr} (h : a ≠ ri) : own_of a si ri si i e = i := by simp [own_of, h]
theorem own_of3 {a b ri si i e : Addr} (h : a ≠ ri) (g : b ≠ si) : own_of a b ri si i e = e := by simp [own_of, h, g]
theorem d1_0 : decode prog_34_method_4_code 0 = .ok (.aload_n 0, 1) := by decide +kernel
theorem d1_1 : decode prog_34_method_4_code 1 = .ok (.getstatic 33, 3) := by decide +kernel
theorem d1_4 : decode prog_34_method_4_code 4 = .ok (.if_acmp .eq 10, 3) := by decide +kernel
theorem d1_7 : decode prog_34_method_4_code 7 = .ok (.aload_n 1, 1) := by decide +kernel
theorem d1_8 : decode prog_34_method_4_code 8 = .ok (.getstatic 39, 3) := by decide +kernel
theorem d1_11 : decode prog_34_method_4_code 11 = .ok (.if_acmp .ne 9, 3) := by decide +kernel
theorem d1_14 : decode prog_34_method_4_code 14 = .ok (.getstatic 7, 3) := by decide +kernel
theorem d1_17 : decode prog_34_method_4_code 17 = .ok (.goto 6, 3) := by decide +kernel
theorem d1_20 : decode prog_34_method_4_code 20 = .ok (.getstatic 3, 3) := by decide +kernel
theorem d1_23 : decode prog_34_method_4_code 23 = .ok (.areturn, 1) := by decide +kernel
theorem pn_1 : plainName "com/example/routeward/routeward/spl/Eligibility" = true := by first | (simp [plainName, overriddenIn]; done) | decide +kernel
theorem ef_rm1 (m : MethodId) (a : Addr) (b : Addr) : entryFrame m #[(.ref a), (.ref b)] 2 = mkF m 0 #[.val (.ref a), .val (.ref b)] [] := by first | (simp [entryFrame, mkF, argsToLocals, Value.category]; done) | rfl | (rcases ref_cases hrf with rfl | ⟨q, rfl⟩ <;> rfl)
def Q_rm1 (Z : State) (a : Addr) (b : Addr) (ra1 : Addr) (sp1 : Addr) (el1 : Addr) (el0 : Addr) (h0 : Heap) (n0 : Nat) (v : Option Value) (h : Heap) (L : List Loc) : Prop := v = some (.ref (own_of a b ra1 sp1 el1 el0)) ∧ Fr n0 L ∧ h = h0
set_option maxRecDepth 65536 in
set_option maxHeartbeats 40000000 in
theorem rm1 (l : Launch) (Z : State) (a0 : Array Value) (hw : ∀ d ∈ tables_1, d.before a0 Z = true) (ws : List Jvm.Cond) (a : Addr) (b : Addr) (ra1 : Addr) (sp1 : Addr) (el1 : Addr) (el0 : Addr) (h0 : Heap) (n0 : Nat) (O0 : Old Z n0 h0) (S_ra1 : Sta Z Z.heap "com/example/routeward/routeward/rov/RoaState" "INVALID" "Lcom/example/routeward/routeward/rov/RoaState;" (.ref ra1)) (S_sp1 : Sta Z Z.heap "com/example/routeward/routeward/spl/SplState" "INVALID" "Lcom/example/routeward/routeward/spl/SplState;" (.ref sp1)) (S_el1 : Sta Z Z.heap "com/example/routeward/routeward/spl/Eligibility" "INELIGIBLE" "Lcom/example/routeward/routeward/spl/Eligibility;" (.ref el1)) (S_el0 : Sta Z Z.heap "com/example/routeward/routeward/spl/Eligibility" "ELIGIBLE" "Lcom/example/routeward/routeward/spl/Eligibility;" (.ref el0)) :
    MetFree l oM0 (head1 (Jvm.Cond.code oM0 prog_34_method_4_code 2 (some (.object "com/example/routeward/routeward/spl/Eligibility")) :: ws) ({ frames := 0, cells := 0, slots := 0, locals := 0 } : Room)) (fun aq_ U => aq_ = #[(.ref a), (.ref b)] ∧ Z.Warmed39 U.vm ∧ U.heap = h0) (fun _ _ _ _ _ => True) (fun _ U o U' => ∃ v L, o = .returned v ∧ Q_rm1 Z a b ra1 sp1 el1 el0 h0 n0 v U'.heap L ∧ FrameEnd U o U' L ({ frames := 0, cells := 0, slots := 0, locals := 0 } : Room).cells ({ frames := 0, cells := 0, slots := 0, locals := 0 } : Room).slots) := by
  refine MetFree.of_bodySF (plainFor_of_name pn_1) hisR ?_
  intro p e s m args below meth c s₁ Bd hml0 hP hK
  obtain ⟨rfl, hZ, hh⟩ := hP
  have hx := Bd.exec
  have hby := Bd.bytes
  have hml : c.maxLocals = 2 := hml0
  have hown : s.vm.findClass "com/example/routeward/routeward/spl/Eligibility" = some m.cls := findClass_of_methodNamed Bd.named
  have hnm := (name_of_methodNamed Bd.named Bd.method).1
  have X0 : Stand p l e ({ frames := 0, cells := 0, slots := 0, locals := 0 } : Room) s m #[(.ref a), (.ref b)] below meth c s₁ [] 0 0 := Stand.of_body Bd
  have e0 : s₁.heap = h0 := by rw [← hh, Bd.state]; rfl
  have N0 := Fr.nil n0
  show own_Ends p.tables e below (own_P s (Q_rm1 Z a b ra1 sp1 el1 el0 h0 n0) ({ frames := 0, cells := 0, slots := 0, locals := 0 } : Room).cells ({ frames := 0, cells := 0, slots := 0, locals := 0 } : Room).slots) _
  refine own_cast (ef_rm1 m a b) ?_
  show own_Ends _ _ _ _ (s₁.setTop (mkF m 0 #[.val (.ref a), .val (.ref b)] []))
  refine own_to (fun _ kont => XS.aloadN X0.here hx rfl (hb hby d1_0) rfl rfl kont) ?_
  show own_Ends _ _ _ _ (s₁.setTop (mkF m 1 #[.val (.ref a), .val (.ref b)] [(.ref a)]))
  obtain ⟨T1, X1, e1, st1⟩ := getS2 X0 hx hZ hown (host := "") (Or.inl (ow14 hw)) Via.refl e0 (S_ra1.ext O0.2) (g := (mkF m 1 #[.val (.ref a), .val (.ref b)] [(.ref a)])) rfl (hb hby d1_1)
  refine own_to st1 ?_
  show own_Ends _ _ _ _ (T1.setTop (mkF m 4 #[.val (.ref a), .val (.ref b)] [(.ref ra1), (.ref a)]))
  by_cases hc4_2 : a = ra1
  · -- pc 4
    refine own_to (fun _ kont => Jvm.RoadKit.acmp (g := (mkF m 4 #[.val (.ref a), .val (.ref b)] [(.ref ra1), (.ref a)])) X1 hx rfl rfl rfl (pc0 := 4) (pc' := 14) (same := true) rfl (hb hby d1_4) rfl (decide_eq_true (congrArg Value.ref hc4_2)) (by decide) (by decide) kont) ?_
    show own_Ends _ _ _ _ (T1.setTop (mkF m 14 #[.val (.ref a), .val (.ref b)] []))
    obtain ⟨T3, X3, e3, st3⟩ := getS2 X1 hx hZ hown (host := "") (Or.inl (ow24 hw)) Via.refl e1 (S_el1.ext O0.2) (g := (mkF m 14 #[.val (.ref a), .val (.ref b)] [])) rfl (hb hby d1_14)
    refine own_to st3 ?_
    show own_Ends _ _ _ _ (T3.setTop (mkF m 17 #[.val (.ref a), .val (.ref b)] [(.ref el1)]))
    refine own_to (fun _ kont => XS.goto X3.here hx rfl (pc0 := 17) (pc' := 23) rfl (hb hby d1_17) (by decide) (by decide) kont) ?_
    show own_Ends _ _ _ _ (T3.setTop (mkF m 23 #[.val (.ref a), .val (.ref b)] [(.ref el1)]))
    refine own_leave X3 (v := some (.ref el1)) (fun h => by rw [Bd.returns] at h; cases h) ?_ (by decide) (by decide) (fun fs hr => retOut X3 hx Bd.returns rfl (Or.inr (Or.inr (Or.inr (Or.inr ⟨rfl, rfl, rfl⟩)))) (hb hby d1_23) hr)
    show Q_rm1 Z a b ra1 sp1 el1 el0 h0 n0 _ T3.heap _
    rw [e3]
    exact ⟨by simp [own_of, *], N0, rfl⟩
  · -- pc 4
    refine own_to (fun _ kont => Jvm.RoadKit.acmp (g := (mkF m 4 #[.val (.ref a), .val (.ref b)] [(.ref ra1), (.ref a)])) X1 hx rfl rfl rfl (pc0 := 4) (pc' := 7) (same := false) rfl (hb hby d1_4) rfl (decide_eq_false fun q => hc4_2 (Value.ref.inj q)) (by decide) (by decide) kont) ?_
    show own_Ends _ _ _ _ (T1.setTop (mkF m 7 #[.val (.ref a), .val (.ref b)] []))
    refine own_to (fun _ kont => XS.aloadN X1.here hx rfl (hb hby d1_7) rfl rfl kont) ?_
    show own_Ends _ _ _ _ (T1.setTop (mkF m 8 #[.val (.ref a), .val (.ref b)] [(.ref b)]))
    obtain ⟨T4, X4, e4, st4⟩ := getS2 X1 hx hZ hown (host := "") (Or.inl (ow16 hw)) Via.refl e1 (S_sp1.ext O0.2) (g := (mkF m 8 #[.val (.ref a), .val (.ref b)] [(.ref b)])) rfl (hb hby d1_8)
    refine own_to st4 ?_
    show own_Ends _ _ _ _ (T4.setTop (mkF m 11 #[.val (.ref a), .val (.ref b)] [(.ref sp1), (.ref b)]))
    by_cases hc11_5 : b = sp1
    · -- pc 11
      refine own_to (fun _ kont => Jvm.RoadKit.acmp (g := (mkF m 11 #[.val (.ref a), .val (.ref b)] [(.ref sp1), (.ref b)])) X4 hx rfl rfl rfl (pc0 := 11) (pc' := 14) (same := true) rfl (hb hby d1_11) rfl (decide_eq_true (congrArg Value.ref hc11_5)) (by decide) (by decide) kont) ?_
      show own_Ends _ _ _ _ (T4.setTop (mkF m 14 #[.val (.ref a), .val (.ref b)] []))
      obtain ⟨T6, X6, e6, st6⟩ := getS2 X4 hx hZ hown (host := "") (Or.inl (ow24 hw)) Via.refl e4 (S_el1.ext O0.2) (g := (mkF m 14 #[.val (.ref a), .val (.ref b)] [])) rfl (hb hby d1_14)
      refine own_to st6 ?_
      show own_Ends _ _ _ _ (T6.setTop (mkF m 17 #[.val (.ref a), .val (.ref b)] [(.ref el1)]))
      refine own_to (fun _ kont => XS.goto X6.here hx rfl (pc0 := 17) (pc' := 23) rfl (hb hby d1_17) (by decide) (by decide) kont) ?_
      show own_Ends _ _ _ _ (T6.setTop (mkF m 23 #[.val (.ref a), .val (.ref b)] [(.ref el1)]))
      refine own_leave X6 (v := some (.ref el1)) (fun h => by rw [Bd.returns] at h; cases h) ?_ (by decide) (by decide) (fun fs hr => retOut X6 hx Bd.returns rfl (Or.inr (Or.inr (Or.inr (Or.inr ⟨rfl, rfl, rfl⟩)))) (hb hby d1_23) hr)
      show Q_rm1 Z a b ra1 sp1 el1 el0 h0 n0 _ T6.heap _
      rw [e6]
      exact ⟨by simp [own_of, *], N0, rfl⟩
    · -- pc 11
      refine own_to (fun _ kont => Jvm.RoadKit.acmp (g := (mkF m 11 #[.val (.ref a), .val (.ref b)] [(.ref sp1), (.ref b)])) X4 hx rfl rfl rfl (pc0 := 11) (pc' := 20) (same := false) rfl (hb hby d1_11) rfl (decide_eq_false fun q => hc11_5 (Value.ref.inj q)) (by decide) (by decide) kont) ?_
      show own_Ends _ _ _ _ (T4.setTop (mkF m 20 #[.val (.ref a), .val (.ref b)] []))
      obtain ⟨T7, X7, e7, st7⟩ := getS2 X4 hx hZ hown (host := "") (Or.inl (ow18 hw)) Via.refl e4 (S_el0.ext O0.2) (g := (mkF m 20 #[.val (.ref a), .val (.ref b)] [])) rfl (hb hby d1_20)
      refine own_to st7 ?_
      show own_Ends _ _ _ _ (T7.setTop (mkF m 23 #[.val (.ref a), .val (.ref b)] [(.ref el0)]))
      refine own_leave X7 (v := some (.ref el0)) (fun h => by rw [Bd.returns] at h; cases h) ?_ (by decide) (by decide) (fun fs hr => retOut X7 hx Bd.returns rfl (Or.inr (Or.inr (Or.inr (Or.inr ⟨rfl, rfl, rfl⟩)))) (hb hby d1_23) hr)
      show Q_rm1 Z a b ra1 sp1 el1 el0 h0 n0 _ T7.heap _
      rw [e7]
      exact ⟨by simp [own_of, *], N0, rfl⟩
theorem pn_0 : plainName "com/example/routeward/routeward/spl/EligibilityOfPinLaw" = true := by first | (simp [plainName, overriddenIn]; done) | decide +kernel
theorem pd_0 : parseMethodDescriptor "(Lcom/example/routeward/routeward/rov/RoaState;Lcom/example/routeward/routeward/spl/SplState;)Lcom/example/routeward/routeward/spl/Eligibility;" = some ⟨[(.object "com/example/routeward/routeward/rov/RoaState"), (.object "com/example/routeward/routeward/spl/SplState")], some (.object "com/example/routeward/routeward/spl/Eligibility")⟩ := by decide +kernel
theorem ef_rm0 (m : MethodId) (z1 : Int32) (z2 : Int32) : entryFrame m #[(.int z1), (.int z2)] maxLocals = mkF m 0 #[.val (.int z1), .val (.int z2), .unset, .unset, .unset, .unset, .unset, .unset, .unset] [] := by first | (simp [entryFrame, mkF, argsToLocals, Value.category, maxLocals]; done) | rfl | (rcases ref_cases hrf with rfl | ⟨q, rfl⟩ <;> rfl)
def Q_rm0 (Z : State) (z1 : Int32) (z2 : Int32) (ra0 : Addr) (sp0 : Addr) (ra1 : Addr) (sp1 : Addr) (ra2 : Addr) (sp2 : Addr) (el0 : Addr) (el1 : Addr) (h0 : Heap) (n0 : Nat) (v : Option Value) (h : Heap) (L : List Loc) : Prop := v = some (.int 1) ∧ Fr n0 L
set_option maxRecDepth 65536 in
set_option maxHeartbeats 40000000 in
theorem rm0 (l : Launch) (Z : State) (a0 : Array Value) (hw : ∀ d ∈ tables_1, d.before a0 Z = true) (ws : List Jvm.Cond) (z1 : Int32) (z2 : Int32) (ra0 : Addr) (sp0 : Addr) (ra1 : Addr) (sp1 : Addr) (ra2 : Addr) (sp2 : Addr) (el0 : Addr) (el1 : Addr) (h0 : Heap) (n0 : Nat) (O0 : Old Z n0 h0) (S_ra0 : Sta Z Z.heap "com/example/routeward/routeward/rov/RoaState" "VALID" "Lcom/example/routeward/routeward/rov/RoaState;" (.ref ra0)) (S_sp0 : Sta Z Z.heap "com/example/routeward/routeward/spl/SplState" "VALID" "Lcom/example/routeward/routeward/spl/SplState;" (.ref sp0)) (S_ra1 : Sta Z Z.heap "com/example/routeward/routeward/rov/RoaState" "INVALID" "Lcom/example/routeward/routeward/rov/RoaState;" (.ref ra1)) (S_sp1 : Sta Z Z.heap "com/example/routeward/routeward/spl/SplState" "INVALID" "Lcom/example/routeward/routeward/spl/SplState;" (.ref sp1)) (S_ra2 : Sta Z Z.heap "com/example/routeward/routeward/rov/RoaState" "NOT_FOUND" "Lcom/example/routeward/routeward/rov/RoaState;" (.ref ra2)) (S_sp2 : Sta Z Z.heap "com/example/routeward/routeward/spl/SplState" "NOT_FOUND" "Lcom/example/routeward/routeward/spl/SplState;" (.ref sp2)) (S_el0 : Sta Z Z.heap "com/example/routeward/routeward/spl/Eligibility" "ELIGIBLE" "Lcom/example/routeward/routeward/spl/Eligibility;" (.ref el0)) (S_el1 : Sta Z Z.heap "com/example/routeward/routeward/spl/Eligibility" "INELIGIBLE" "Lcom/example/routeward/routeward/spl/Eligibility;" (.ref el1)) (E_ra0 : Exa Z Z.heap ra0 "com/example/routeward/routeward/rov/RoaState") (E_sp0 : Exa Z Z.heap sp0 "com/example/routeward/routeward/spl/SplState") (E_ra1 : Exa Z Z.heap ra1 "com/example/routeward/routeward/rov/RoaState") (E_sp1 : Exa Z Z.heap sp1 "com/example/routeward/routeward/spl/SplState") (E_ra2 : Exa Z Z.heap ra2 "com/example/routeward/routeward/rov/RoaState") (E_sp2 : Exa Z Z.heap sp2 "com/example/routeward/routeward/spl/SplState") (E_el0 : Exa Z Z.heap el0 "com/example/routeward/routeward/spl/Eligibility") (E_el1 : Exa Z Z.heap el1 "com/example/routeward/routeward/spl/Eligibility") (F_ra0 : Fld Z Z.heap ra0 "java/lang/Enum" "ordinal" "I" (.int (0 : Int32))) (F_ra1 : Fld Z Z.heap ra1 "java/lang/Enum" "ordinal" "I" (.int (1 : Int32))) (F_ra2 : Fld Z Z.heap ra2 "java/lang/Enum" "ordinal" "I" (.int (2 : Int32))) (F_sp0 : Fld Z Z.heap sp0 "java/lang/Enum" "ordinal" "I" (.int (0 : Int32))) (F_sp1 : Fld Z Z.heap sp1 "java/lang/Enum" "ordinal" "I" (.int (1 : Int32))) (F_sp2 : Fld Z Z.heap sp2 "java/lang/Enum" "ordinal" "I" (.int (2 : Int32))) :
    MetFree l x (head1 (Jvm.Cond.code x code maxLocals ret :: ws) room_1) (fun aq_ U => aq_ = #[(.int z1), (.int z2)] ∧ Z.Warmed39 U.vm ∧ U.heap = h0) (fun _ _ _ _ _ => True) (fun _ U o U' => ∃ v L, o = .returned v ∧ Q_rm0 Z z1 z2 ra0 sp0 ra1 sp1 ra2 sp2 el0 el1 h0 n0 v U'.heap L ∧ FrameEnd U o U' L 16 128) := by
  refine MetFree.of_bodySF (plainFor_of_name pn_0) hisR ?_
  intro p e s m args below meth c s₁ Bd hml0 hP hK
  obtain ⟨rfl, hZ, hh⟩ := hP
  have hx := Bd.exec
  have hby := Bd.bytes
  have hml : c.maxLocals = 9 := hml0
  have hown : s.vm.findClass "com/example/routeward/routeward/spl/EligibilityOfPinLaw" = some m.cls := findClass_of_methodNamed Bd.named
  have hnm := (name_of_methodNamed Bd.named Bd.method).1
  have X0 : Stand p l e room_1 s m #[(.int z1), (.int z2)] below meth c s₁ [] 0 0 := Stand.of_body Bd
  have e0 : s₁.heap = h0 := by rw [← hh, Bd.state]; rfl
  have N0 := Fr.nil n0
  show own_Ends p.tables e below (own_P s (Q_rm0 Z z1 z2 ra0 sp0 ra1 sp1 ra2 sp2 el0 el1 h0 n0) 16 128) _
  refine own_cast (ef_rm0 m z1 z2) ?_
  show own_Ends _ _ _ _ (s₁.setTop (mkF m 0 #[.val (.int z1), .val (.int z2), .unset, .unset, .unset, .unset, .unset, .unset, .unset] []))
  refine own_to (fun _ kont => XS.iloadN X0.here hx rfl (hb hby at_0) rfl kont) ?_
  show own_Ends _ _ _ _ (s₁.setTop (mkF m 1 #[.val (.int z1), .val (.int z2), .unset, .unset, .unset, .unset, .unset, .unset, .unset] [(.int z1)]))
  refine own_to (X0.ldcInt hx hown (mvT hZ (ow0 hw)) (g := (mkF m 1 #[.val (.int z1), .val (.int z2), .unset, .unset, .unset, .unset, .unset, .unset, .unset] [(.int z1)])) rfl (hb hby at_1)) ?_
  show own_Ends _ _ _ _ (s₁.setTop (mkF m 3 #[.val (.int z1), .val (.int z2), .unset, .unset, .unset, .unset, .unset, .unset, .unset] [(.int 2147483647), (.int z1)]))
  refine own_to (fun _ kont => XS.iand X0.here hx rfl (hb hby at_3) rfl kont) ?_
  show own_Ends _ _ _ _ (s₁.setTop (mkF m 4 #[.val (.int z1), .val (.int z2), .unset, .unset, .unset, .unset, .unset, .unset, .unset] [(.int (z1 &&& 2147483647))]))
  refine own_to (fun _ kont => XS.iconst X0.here hx rfl (hb hby at_4) kont) ?_
  show own_Ends _ _ _ _ (s₁.setTop (mkF m 5 #[.val (.int z1), .val (.int z2), .unset, .unset, .unset, .unset, .unset, .unset, .unset] [(.int 3), (.int (z1 &&& 2147483647))]))
  refine own_to (fun _ kont => iremM X0 hx rfl (hb hby at_5) rfl (by decide) kont) ?_
  show own_Ends _ _ _ _ (s₁.setTop (mkF m 6 #[.val (.int z1), .val (.int z2), .unset, .unset, .unset, .unset, .unset, .unset, .unset] [(.int ((z1 &&& 2147483647) % 3))]))
  refine own_to (fun _ kont => XS.istoreN X0.here hx rfl (hb hby at_6) rfl (l' := #[.val (.int z1), .val (.int z2), .val (.int ((z1 &&& (2147483647 : Int32)) % (3 : Int32))), .unset, .unset, .unset, .unset, .unset, .unset]) rfl kont) ?_
  show own_Ends _ _ _ _ (s₁.setTop (mkF m 7 #[.val (.int z1), .val (.int z2), .val (.int ((z1 &&& 2147483647) % 3)), .unset, .unset, .unset, .unset, .unset, .unset] []))
  refine own_to (fun _ kont => XS.iloadN X0.here hx rfl (hb hby at_7) rfl kont) ?_
  show own_Ends _ _ _ _ (s₁.setTop (mkF m 8 #[.val (.int z1), .val (.int z2), .val (.int ((z1 &&& 2147483647) % 3)), .unset, .unset, .unset, .unset, .unset, .unset] [(.int z2)]))
  refine own_to (X0.ldcInt hx hown (mvT hZ (ow0 hw)) (g := (mkF m 8 #[.val (.int z1), .val (.int z2), .val (.int ((z1 &&& (2147483647 : Int32)) % (3 : Int32))), .unset, .unset, .unset, .unset, .unset, .unset] [(.int z2)])) rfl (hb hby at_8)) ?_
  show own_Ends _ _ _ _ (s₁.setTop (mkF m 10 #[.val (.int z1), .val (.int z2), .val (.int ((z1 &&& 2147483647) % 3)), .unset, .unset, .unset, .unset, .unset, .unset] [(.int 2147483647), (.int z2)]))
  refine own_to (fun _ kont => XS.iand X0.here hx rfl (hb hby at_10) rfl kont) ?_
  show own_Ends _ _ _ _ (s₁.setTop (mkF m 11 #[.val (.int z1), .val (.int z2), .val (.int ((z1 &&& 2147483647) % 3)), .unset, .unset, .unset, .unset, .unset, .unset] [(.int (z2 &&& 2147483647))]))
  refine own_to (fun _ kont => XS.iconst X0.here hx rfl (hb hby at_11) kont) ?_
  show own_Ends _ _ _ _ (s₁.setTop (mkF m 12 #[.val (.int z1), .val (.int z2), .val (.int ((z1 &&& 2147483647) % 3)), .unset, .unset, .unset, .unset, .unset, .unset] [(.int 3), (.int (z2 &&& 2147483647))]))
  refine own_to (fun _ kont => iremM X0 hx rfl (hb hby at_12) rfl (by decide) kont) ?_
  show own_Ends _ _ _ _ (s₁.setTop (mkF m 13 #[.val (.int z1), .val (.int z2), .val (.int ((z1 &&& 2147483647) % 3)), .unset, .unset, .unset, .unset, .unset, .unset] [(.int ((z2 &&& 2147483647) % 3))]))
  refine own_to (fun _ kont => XS.istoreN X0.here hx rfl (hb hby at_13) rfl (l' := #[.val (.int z1), .val (.int z2), .val (.int ((z1 &&& (2147483647 : Int32)) % (3 : Int32))), .val (.int ((z2 &&& (2147483647 : Int32)) % (3 : Int32))), .unset, .unset, .unset, .unset, .unset]) rfl kont) ?_
  show own_Ends _ _ _ _ (s₁.setTop (mkF m 14 #[.val (.int z1), .val (.int z2), .val (.int ((z1 &&& 2147483647) % 3)), .val (.int ((z2 &&& 2147483647) % 3)), .unset, .unset, .unset, .unset, .unset] []))
  generalize hi1 : ((z1 &&& (2147483647 : Int32)) % (3 : Int32)) = i1
  generalize hi2 : ((z2 &&& (2147483647 : Int32)) % (3 : Int32)) = i2
  rcases (hi1 ▸ own_mod3 z1 : i1 = 0 ∨ i1 = 1 ∨ i1 = 2) with rfl | rfl | rfl <;> rcases (hi2 ▸ own_mod3 z2 : i2 = 0 ∨ i2 = 1 ∨ i2 = 2) with rfl | rfl | rfl
  · skip
    show own_Ends _ _ _ _ (s₁.setTop (mkF m 14 #[.val (.int z1), .val (.int z2), .val (.int 0), .val (.int 0), .unset, .unset, .unset, .unset, .unset] []))
    refine own_to (fun _ kont => XS.iloadN X0.here hx rfl (hb hby at_14) rfl kont) ?_
    show own_Ends _ _ _ _ (s₁.setTop (mkF m 15 #[.val (.int z1), .val (.int z2), .val (.int 0), .val (.int 0), .unset, .unset, .unset, .unset, .unset] [(.int 0)]))
    refine own_to (fun _ kont => XS.ifNo X0.here hx rfl (hb hby at_15) rfl ((if0 _ _).trans (teq (by decide)).2) kont) ?_
    show own_Ends _ _ _ _ (s₁.setTop (mkF m 18 #[.val (.int z1), .val (.int z2), .val (.int 0), .val (.int 0), .unset, .unset, .unset, .unset, .unset] []))
    obtain ⟨T1, X1, e1, st1⟩ := getS2 X0 hx hZ hown (host := "") (Or.inl (ow1 hw)) Via.refl e0 (S_ra0.ext O0.2) (g := (mkF m 18 #[.val (.int z1), .val (.int z2), .val (.int (0 : Int32)), .val (.int (0 : Int32)), .unset, .unset, .unset, .unset, .unset] [])) rfl (hb hby at_18)
    refine own_to st1 ?_
    show own_Ends _ _ _ _ (T1.setTop (mkF m 21 #[.val (.int z1), .val (.int z2), .val (.int 0), .val (.int 0), .unset, .unset, .unset, .unset, .unset] [(.ref ra0)]))
    refine own_to (fun _ kont => XS.goto X1.here hx rfl (pc0 := 21) (pc' := 38) rfl (hb hby at_21) (by decide) (by decide) kont) ?_
    show own_Ends _ _ _ _ (T1.setTop (mkF m 38 #[.val (.int z1), .val (.int z2), .val (.int 0), .val (.int 0), .unset, .unset, .unset, .unset, .unset] [(.ref ra0)]))
    refine own_to (fun _ kont => XS.astore X1.here hx rfl (hb hby at_38) rfl rfl (l' := #[.val (.int z1), .val (.int z2), .val (.int (0 : Int32)), .val (.int (0 : Int32)), .val (.ref ra0), .unset, .unset, .unset, .unset]) rfl kont) ?_
    show own_Ends _ _ _ _ (T1.setTop (mkF m 40 #[.val (.int z1), .val (.int z2), .val (.int 0), .val (.int 0), .val (.ref ra0), .unset, .unset, .unset, .unset] []))
    refine own_to (fun _ kont => XS.iloadN X1.here hx rfl (hb hby at_40) rfl kont) ?_
    show own_Ends _ _ _ _ (T1.setTop (mkF m 41 #[.val (.int z1), .val (.int z2), .val (.int 0), .val (.int 0), .val (.ref ra0), .unset, .unset, .unset, .unset] [(.int 0)]))
    refine own_to (fun _ kont => XS.ifNo X1.here hx rfl (hb hby at_41) rfl ((if0 _ _).trans (teq (by decide)).2) kont) ?_
    show own_Ends _ _ _ _ (T1.setTop (mkF m 44 #[.val (.int z1), .val (.int z2), .val (.int 0), .val (.int 0), .val (.ref ra0), .unset, .unset, .unset, .unset] []))
    obtain ⟨T2, X2, e2, st2⟩ := getS2 X1 hx hZ hown (host := "") (Or.inl (ow4 hw)) Via.refl e1 (S_sp0.ext O0.2) (g := (mkF m 44 #[.val (.int z1), .val (.int z2), .val (.int (0 : Int32)), .val (.int (0 : Int32)), .val (.ref ra0), .unset, .unset, .unset, .unset] [])) rfl (hb hby at_44)
    refine own_to st2 ?_
    show own_Ends _ _ _ _ (T2.setTop (mkF m 47 #[.val (.int z1), .val (.int z2), .val (.int 0), .val (.int 0), .val (.ref ra0), .unset, .unset, .unset, .unset] [(.ref sp0)]))
    refine own_to (fun _ kont => XS.goto X2.here hx rfl (pc0 := 47) (pc' := 64) rfl (hb hby at_47) (by decide) (by decide) kont) ?_
    show own_Ends _ _ _ _ (T2.setTop (mkF m 64 #[.val (.int z1), .val (.int z2), .val (.int 0), .val (.int 0), .val (.ref ra0), .unset, .unset, .unset, .unset] [(.ref sp0)]))
    refine own_to (fun _ kont => XS.astore X2.here hx rfl (hb hby at_64) rfl rfl (l' := #[.val (.int z1), .val (.int z2), .val (.int (0 : Int32)), .val (.int (0 : Int32)), .val (.ref ra0), .val (.ref sp0), .unset, .unset, .unset]) rfl kont) ?_
    show own_Ends _ _ _ _ (T2.setTop (mkF m 66 #[.val (.int z1), .val (.int z2), .val (.int 0), .val (.int 0), .val (.ref ra0), .val (.ref sp0), .unset, .unset, .unset] []))
    refine own_to (fun _ kont => XS.bipush X2.here hx rfl (hb hby at_66) kont) ?_
    show own_Ends _ _ _ _ (T2.setTop (mkF m 68 #[.val (.int z1), .val (.int z2), .val (.int 0), .val (.int 0), .val (.ref ra0), .val (.ref sp0), .unset, .unset, .unset] [(.int 9)]))
    obtain ⟨T3, h3, k3, X3, e3, E3, A3, st3⟩ := newP X2 hx hZ (aty := .boolean) (ow7 hw) e2 (g := (mkF m 68 #[.val (.int z1), .val (.int z2), .val (.int (0 : Int32)), .val (.int (0 : Int32)), .val (.ref ra0), .val (.ref sp0), .unset, .unset, .unset] [(.int (9 : Int32))])) rfl (hb hby at_68) rfl (by decide) (cap := 9) (by decide) (by decide) (by decide) (by decide)
    obtain ⟨b3, g3⟩ : ∃ z, z = h0.size := ⟨_, rfl⟩
    rw [← g3] at A3 st3
    have g_b3 : n0 ≤ b3 := Nat.le_trans (own_old_le O0) (Nat.le_of_eq g3.symm)
    refine own_to st3 ?_
    have O3 := O0.ext E3
    have Vn3 : Arv Z h3 b3 k3 .boolean (9 : Int32) [(.int (0 : Int32)), (.int (0 : Int32)), (.int (0 : Int32)), (.int (0 : Int32)), (.int (0 : Int32)), (.int (0 : Int32)), (.int (0 : Int32)), (.int (0 : Int32)), (.int (0 : Int32))] (.int (0 : Int32)) := (Arv.new A3 (by decide)).pad (pad_rep [] (.int (0 : Int32)) 9)
    show own_Ends _ _ _ _ (T3.setTop (mkF m 70 #[.val (.int z1), .val (.int z2), .val (.int 0), .val (.int 0), .val (.ref ra0), .val (.ref sp0), .unset, .unset, .unset] [(.ref b3)]))
    refine own_to (fun _ kont => XS.dup X3.here hx rfl (hb hby at_70) rfl rfl kont) ?_
    show own_Ends _ _ _ _ (T3.setTop (mkF m 71 #[.val (.int z1), .val (.int z2), .val (.int 0), .val (.int 0), .val (.ref ra0), .val (.ref sp0), .unset, .unset, .unset] [(.ref b3), (.ref b3)]))
    refine own_to (fun _ kont => XS.iconst X3.here hx rfl (hb hby at_71) kont) ?_
    show own_Ends _ _ _ _ (T3.setTop (mkF m 72 #[.val (.int z1), .val (.int z2), .val (.int 0), .val (.int 0), .val (.ref ra0), .val (.ref sp0), .unset, .unset, .unset] [(.int 0), (.ref b3), (.ref b3)]))
    refine own_to (fun _ kont => XS.iconst X3.here hx rfl (hb hby at_72) kont) ?_
    show own_Ends _ _ _ _ (T3.setTop (mkF m 73 #[.val (.int z1), .val (.int z2), .val (.int 0), .val (.int 0), .val (.ref ra0), .val (.ref sp0), .unset, .unset, .unset] [(.int 0), (.int 0), (.ref b3), (.ref b3)]))
    obtain ⟨cl4, Ar4, q4, S4, M4, H4, G4⟩ := Vn3
    have hin4 : ¬ ((0 : Int32) < 0 ∨ cl4.slots.size ≤ ((0 : Int32)).toNatClampNeg) := inb_of S4 ⟨by decide, by decide⟩
    obtain ⟨T4, h4, X4, e4, W4, st4⟩ := stZ X3 hx hZ e3 Ar4 (j := (0 : Int32)) hin4 (g := (mkF m 73 #[.val (.int z1), .val (.int z2), .val (.int (0 : Int32)), .val (.int (0 : Int32)), .val (.ref ra0), .val (.ref sp0), .unset, .unset, .unset] [(.int (0 : Int32)), (.int (0 : Int32)), (.ref b3), (.ref b3)])) rfl rfl (hb hby at_73)
    have Vs4 : Arv Z h4 b3 k3 .boolean (9 : Int32) [(.int (0 : Int32)), (.int (0 : Int32)), (.int (0 : Int32)), (.int (0 : Int32)), (.int (0 : Int32)), (.int (0 : Int32)), (.int (0 : Int32)), (.int (0 : Int32)), (.int (0 : Int32))] (.int (0 : Int32)) := Arv.set Ar4 q4 S4 M4 H4 G4 (fits_nar_bool _) W4 0 rfl (own_lt rfl)
    refine own_to st4 ?_
    have O4 := O3.wr W4 g_b3
    have N4 := Fr.snoc X4 N0 g_b3
    show own_Ends _ _ _ _ (T4.setTop (mkF m 74 #[.val (.int z1), .val (.int z2), .val (.int 0), .val (.int 0), .val (.ref ra0), .val (.ref sp0), .unset, .unset, .unset] [(.ref b3)]))
    refine own_to (fun _ kont => XS.dup X4.here hx rfl (hb hby at_74) rfl rfl kont) ?_
    show own_Ends _ _ _ _ (T4.setTop (mkF m 75 #[.val (.int z1), .val (.int z2), .val (.int 0), .val (.int 0), .val (.ref ra0), .val (.ref sp0), .unset, .unset, .unset] [(.ref b3), (.ref b3)]))
    refine own_to (fun _ kont => XS.iconst X4.here hx rfl (hb hby at_75) kont) ?_
    show own_Ends _ _ _ _ (T4.setTop (mkF m 76 #[.val (.int z1), .val (.int z2), .val (.int 0), .val (.int 0), .val (.ref ra0), .val (.ref sp0), .unset, .unset, .unset] [(.int 1), (.ref b3), (.ref b3)]))
    refine own_to (fun _ kont => XS.iconst X4.here hx rfl (hb hby at_76) kont) ?_
    show own_Ends _ _ _ _ (T4.setTop (mkF m 77 #[.val (.int z1), .val (.int z2), .val (.int 0), .val (.int 0), .val (.ref ra0), .val (.ref sp0), .unset, .unset, .unset] [(.int 1), (.int 1), (.ref b3), (.ref b3)]))
    obtain ⟨cl5, Ar5, q5, S5, M5, H5, G5⟩ := Vs4
    have hin5 : ¬ ((1 : Int32) < 0 ∨ cl5.slots.size ≤ ((1 : Int32)).toNatClampNeg) := inb_of S5 ⟨by decide, by decide⟩
    obtain ⟨T5, h5, X5, e5, W5, st5⟩ := stZ X4 hx hZ e4 Ar5 (j := (1 : Int32)) hin5 (g := (mkF m 77 #[.val (.int z1), .val (.int z2), .val (.int (0 : Int32)), .val (.int (0 : Int32)), .val (.ref ra0), .val (.ref sp0), .unset, .unset, .unset] [(.int (1 : Int32)), (.int (1 : Int32)), (.ref b3), (.ref b3)])) rfl rfl (hb hby at_77)
    have Vs5 : Arv Z h5 b3 k3 .boolean (9 : Int32) [(.int (0 : Int32)), (.int (1 : Int32)), (.int (0 : Int32)), (.int (0 : Int32)), (.int (0 : Int32)), (.int (0 : Int32)), (.int (0 : Int32)), (.int (0 : Int32)), (.int (0 : Int32))] (.int (0 : Int32)) := Arv.set Ar5 q5 S5 M5 H5 G5 (fits_nar_bool _) W5 1 rfl (own_lt rfl)
    refine own_to st5 ?_
    have O5 := O4.wr W5 g_b3
    have N5 := Fr.snoc X5 N4 g_b3
    show own_Ends _ _ _ _ (T5.setTop (mkF m 78 #[.val (.int z1), .val (.int z2), .val (.int 0), .val (.int 0), .val (.ref ra0), .val (.ref sp0), .unset, .unset, .unset] [(.ref b3)]))
    refine own_to (fun _ kont => XS.dup X5.here hx rfl (hb hby at_78) rfl rfl kont) ?_
    show own_Ends _ _ _ _ (T5.setTop (mkF m 79 #[.val (.int z1), .val (.int z2), .val (.int 0), .val (.int 0), .val (.ref ra0), .val (.ref sp0), .unset, .unset, .unset] [(.ref b3), (.ref b3)]))
    refine own_to (fun _ kont => XS.iconst X5.here hx rfl (hb hby at_79) kont) ?_
    show own_Ends _ _ _ _ (T5.setTop (mkF m 80 #[.val (.int z1), .val (.int z2), .val (.int 0), .val (.int 0), .val (.ref ra0), .val (.ref sp0), .unset, .unset, .unset] [(.int 2), (.ref b3), (.ref b3)]))
    refine own_to (fun _ kont => XS.iconst X5.here hx rfl (hb hby at_80) kont) ?_
    show own_Ends _ _ _ _ (T5.setTop (mkF m 81 #[.val (.int z1), .val (.int z2), .val (.int 0), .val (.int 0), .val (.ref ra0), .val (.ref sp0), .unset, .unset, .unset] [(.int 0), (.int 2), (.ref b3), (.ref b3)]))
    obtain ⟨cl6, Ar6, q6, S6, M6, H6, G6⟩ := Vs5
    have hin6 : ¬ ((2 : Int32) < 0 ∨ cl6.slots.size ≤ ((2 : Int32)).toNatClampNeg) := inb_of S6 ⟨by decide, by decide⟩
    obtain ⟨T6, h6, X6, e6, W6, st6⟩ := stZ X5 hx hZ e5 Ar6 (j := (2 : Int32)) hin6 (g := (mkF m 81 #[.val (.int z1), .val (.int z2), .val (.int (0 : Int32)), .val (.int (0 : Int32)), .val (.ref ra0), .val (.ref sp0), .unset, .unset, .unset] [(.int (0 : Int32)), (.int (2 : Int32)), (.ref b3), (.ref b3)])) rfl rfl (hb hby at_81)
    have Vs6 : Arv Z h6 b3 k3 .boolean (9 : Int32) [(.int (0 : Int32)), (.int (1 : Int32)), (.int (0 : Int32)), (.int (0 : Int32)), (.int (0 : Int32)), (.int (0 : Int32)), (.int (0 : Int32)), (.int (0 : Int32)), (.int (0 : Int32))] (.int (0 : Int32)) := Arv.set Ar6 q6 S6 M6 H6 G6 (fits_nar_bool _) W6 2 rfl (own_lt rfl)
    refine own_to st6 ?_
    have O6 := O5.wr W6 g_b3
    have N6 := Fr.snoc X6 N5 g_b3
    show own_Ends _ _ _ _ (T6.setTop (mkF m 82 #[.val (.int z1), .val (.int z2), .val (.int 0), .val (.int 0), .val (.ref ra0), .val (.ref sp0), .unset, .unset, .unset] [(.ref b3)]))
    refine own_to (fun _ kont => XS.dup X6.here hx rfl (hb hby at_82) rfl rfl kont) ?_
    show own_Ends _ _ _ _ (T6.setTop (mkF m 83 #[.val (.int z1), .val (.int z2), .val (.int 0), .val (.int 0), .val (.ref ra0), .val (.ref sp0), .unset, .unset, .unset] [(.ref b3), (.ref b3)]))
    refine own_to (fun _ kont => XS.iconst X6.here hx rfl (hb hby at_83) kont) ?_
    show own_Ends _ _ _ _ (T6.setTop (mkF m 84 #[.val (.int z1), .val (.int z2), .val (.int 0), .val (.int 0), .val (.ref ra0), .val (.ref sp0), .unset, .unset, .unset] [(.int 3), (.ref b3), (.ref b3)]))
    refine own_to (fun _ kont => XS.iconst X6.here hx rfl (hb hby at_84) kont) ?_
    show own_Ends _ _ _ _ (T6.setTop (mkF m 85 #[.val (.int z1), .val (.int z2), .val (.int 0), .val (.int 0), .val (.ref ra0), .val (.ref sp0), .unset, .unset, .unset] [(.int 1), (.int 3), (.ref b3), (.ref b3)]))
    obtain ⟨cl7, Ar7, q7, S7, M7, H7, G7⟩ := Vs6
    have hin7 : ¬ ((3 : Int32) < 0 ∨ cl7.slots.size ≤ ((3 : Int32)).toNatClampNeg) := inb_of S7 ⟨by decide, by decide⟩
    obtain ⟨T7, h7, X7, e7, W7, st7⟩ := stZ X6 hx hZ e6 Ar7 (j := (3 : Int32)) hin7 (g := (mkF m 85 #[.val (.int z1), .val (.int z2), .val (.int (0 : Int32)), .val (.int (0 : Int32)), .val (.ref ra0), .val (.ref sp0), .unset, .unset, .unset] [(.int (1 : Int32)), (.int (3 : Int32)), (.ref b3), (.ref b3)])) rfl rfl (hb hby at_85)
    have Vs7 : Arv Z h7 b3 k3 .boolean (9 : Int32) [(.int (0 : Int32)), (.int (1 : Int32)), (.int (0 : Int32)), (.int (1 : Int32)), (.int (0 : Int32)), (.int (0 : Int32)), (.int (0 : Int32)), (.int (0 : Int32)), (.int (0 : Int32))] (.int (0 : Int32)) := Arv.set Ar7 q7 S7 M7 H7 G7 (fits_nar_bool _) W7 3 rfl (own_lt rfl)
    refine own_to st7 ?_
    have O7 := O6.wr W7 g_b3
    have N7 := Fr.snoc X7 N6 g_b3
    show own_Ends _ _ _ _ (T7.setTop (mkF m 86 #[.val (.int z1), .val (.int z2), .val (.int 0), .val (.int 0), .val (.ref ra0), .val (.ref sp0), .unset, .unset, .unset] [(.ref b3)]))
    refine own_to (fun _ kont => XS.dup X7.here hx rfl (hb hby at_86) rfl rfl kont) ?_
    show own_Ends _ _ _ _ (T7.setTop (mkF m 87 #[.val (.int z1), .val (.int z2), .val (.int 0), .val (.int 0), .val (.ref ra0), .val (.ref sp0), .unset, .unset, .unset] [(.ref b3), (.ref b3)]))
    refine own_to (fun _ kont => XS.iconst X7.here hx rfl (hb hby at_87) kont) ?_
    show own_Ends _ _ _ _ (T7.setTop (mkF m 88 #[.val (.int z1), .val (.int z2), .val (.int 0), .val (.int 0), .val (.ref ra0), .val (.ref sp0), .unset, .unset, .unset] [(.int 4), (.ref b3), (.ref b3)]))
    refine own_to (fun _ kont => XS.iconst X7.here hx rfl (hb hby at_88) kont) ?_
    show own_Ends _ _ _ _ (T7.setTop (mkF m 89 #[.val (.int z1), .val (.int z2), .val (.int 0), .val (.int 0), .val (.ref ra0), .val (.ref sp0), .unset, .unset, .unset] [(.int 1), (.int 4), (.ref b3), (.ref b3)]))
    obtain ⟨cl8, Ar8, q8, S8, M8, H8, G8⟩ := Vs7
    have hin8 : ¬ ((4 : Int32) < 0 ∨ cl8.slots.size ≤ ((4 : Int32)).toNatClampNeg) := inb_of S8 ⟨by decide, by decide⟩
    obtain ⟨T8, h8, X8, e8, W8, st8⟩ := stZ X7 hx hZ e7 Ar8 (j := (4 : Int32)) hin8 (g := (mkF m 89 #[.val (.int z1), .val (.int z2), .val (.int (0 : Int32)), .val (.int (0 : Int32)), .val (.ref ra0), .val (.ref sp0), .unset, .unset, .unset] [(.int (1 : Int32)), (.int (4 : Int32)), (.ref b3), (.ref b3)])) rfl rfl (hb hby at_89)
    have Vs8 : Arv Z h8 b3 k3 .boolean (9 : Int32) [(.int (0 : Int32)), (.int (1 : Int32)), (.int (0 : Int32)), (.int (1 : Int32)), (.int (1 : Int32)), (.int (0 : Int32)), (.int (0 : Int32)), (.int (0 : Int32)), (.int (0 : Int32))] (.int (0 : Int32)) := Arv.set Ar8 q8 S8 M8 H8 G8 (fits_nar_bool _) W8 4 rfl (own_lt rfl)
    refine own_to st8 ?_
    have O8 := O7.wr W8 g_b3
    have N8 := Fr.snoc X8 N7 g_b3
    show own_Ends _ _ _ _ (T8.setTop (mkF m 90 #[.val (.int z1), .val (.int z2), .val (.int 0), .val (.int 0), .val (.ref ra0), .val (.ref sp0), .unset, .unset, .unset] [(.ref b3)]))
    refine own_to (fun _ kont => XS.dup X8.here hx rfl (hb hby at_90) rfl rfl kont) ?_
    show own_Ends _ _ _ _ (T8.setTop (mkF m 91 #[.val (.int z1), .val (.int z2), .val (.int 0), .val (.int 0), .val (.ref ra0), .val (.ref sp0), .unset, .unset, .unset] [(.ref b3), (.ref b3)]))
    refine own_to (fun _ kont => XS.iconst X8.here hx rfl (hb hby at_91) kont) ?_
    show own_Ends _ _ _ _ (T8.setTop (mkF m 92 #[.val (.int z1), .val (.int z2), .val (.int 0), .val (.int 0), .val (.ref ra0), .val (.ref sp0), .unset, .unset, .unset] [(.int 5), (.ref b3), (.ref b3)]))
    refine own_to (fun _ kont => XS.iconst X8.here hx rfl (hb hby at_92) kont) ?_
    show own_Ends _ _ _ _ (T8.setTop (mkF m 93 #[.val (.int z1), .val (.int z2), .val (.int 0), .val (.int 0), .val (.ref ra0), .val (.ref sp0), .unset, .unset, .unset] [(.int 1), (.int 5), (.ref b3), (.ref b3)]))
    obtain ⟨cl9, Ar9, q9, S9, M9, H9, G9⟩ := Vs8
    have hin9 : ¬ ((5 : Int32) < 0 ∨ cl9.slots.size ≤ ((5 : Int32)).toNatClampNeg) := inb_of S9 ⟨by decide, by decide⟩
    obtain ⟨T9, h9, X9, e9, W9, st9⟩ := stZ X8 hx hZ e8 Ar9 (j := (5 : Int32)) hin9 (g := (mkF m 93 #[.val (.int z1), .val (.int z2), .val (.int (0 : Int32)), .val (.int (0 : Int32)), .val (.ref ra0), .val (.ref sp0), .unset, .unset, .unset] [(.int (1 : Int32)), (.int (5 : Int32)), (.ref b3), (.ref b3)])) rfl rfl (hb hby at_93)
    have Vs9 : Arv Z h9 b3 k3 .boolean (9 : Int32) [(.int (0 : Int32)), (.int (1 : Int32)), (.int (0 : Int32)), (.int (1 : Int32)), (.int (1 : Int32)), (.int (1 : Int32)), (.int (0 : Int32)), (.int (0 : Int32)), (.int (0 : Int32))] (.int (0 : Int32)) := Arv.set Ar9 q9 S9 M9 H9 G9 (fits_nar_bool _) W9 5 rfl (own_lt rfl)
    refine own_to st9 ?_
    have O9 := O8.wr W9 g_b3
    have N9 := Fr.snoc X9 N8 g_b3
    show own_Ends _ _ _ _ (T9.setTop (mkF m 94 #[.val (.int z1), .val (.int z2), .val (.int 0), .val (.int 0), .val (.ref ra0), .val (.ref sp0), .unset, .unset, .unset] [(.ref b3)]))
    refine own_to (fun _ kont => XS.dup X9.here hx rfl (hb hby at_94) rfl rfl kont) ?_
    show own_Ends _ _ _ _ (T9.setTop (mkF m 95 #[.val (.int z1), .val (.int z2), .val (.int 0), .val (.int 0), .val (.ref ra0), .val (.ref sp0), .unset, .unset, .unset] [(.ref b3), (.ref b3)]))
    refine own_to (fun _ kont => XS.bipush X9.here hx rfl (hb hby at_95) kont) ?_
    show own_Ends _ _ _ _ (T9.setTop (mkF m 97 #[.val (.int z1), .val (.int z2), .val (.int 0), .val (.int 0), .val (.ref ra0), .val (.ref sp0), .unset, .unset, .unset] [(.int 6), (.ref b3), (.ref b3)]))
    refine own_to (fun _ kont => XS.iconst X9.here hx rfl (hb hby at_97) kont) ?_
    show own_Ends _ _ _ _ (T9.setTop (mkF m 98 #[.val (.int z1), .val (.int z2), .val (.int 0), .val (.int 0), .val (.ref ra0), .val (.ref sp0), .unset, .unset, .unset] [(.int 0), (.int 6), (.ref b3), (.ref b3)]))
    obtain ⟨cl10, Ar10, q10, S10, M10, H10, G10⟩ := Vs9
    have hin10 : ¬ ((6 : Int32) < 0 ∨ cl10.slots.size ≤ ((6 : Int32)).toNatClampNeg) := inb_of S10 ⟨by decide, by decide⟩
    obtain ⟨T10, h10, X10, e10, W10, st10⟩ := stZ X9 hx hZ e9 Ar10 (j := (6 : Int32)) hin10 (g := (mkF m 98 #[.val (.int z1), .val (.int z2), .val (.int (0 : Int32)), .val (.int (0 : Int32)), .val (.ref ra0), .val (.ref sp0), .unset, .unset, .unset] [(.int (0 : Int32)), (.int (6 : Int32)), (.ref b3), (.ref b3)])) rfl rfl (hb hby at_98)
    have Vs10 : Arv Z h10 b3 k3 .boolean (9 : Int32) [(.int (0 : Int32)), (.int (1 : Int32)), (.int (0 : Int32)), (.int (1 : Int32)), (.int (1 : Int32)), (.int (1 : Int32)), (.int (0 : Int32)), (.int (0 : Int32)), (.int (0 : Int32))] (.int (0 : Int32)) := Arv.set Ar10 q10 S10 M10 H10 G10 (fits_nar_bool _) W10 6 rfl (own_lt rfl)
    refine own_to st10 ?_
    have O10 := O9.wr W10 g_b3
    have N10 := Fr.snoc X10 N9 g_b3
    show own_Ends _ _ _ _ (T10.setTop (mkF m 99 #[.val (.int z1), .val (.int z2), .val (.int 0), .val (.int 0), .val (.ref ra0), .val (.ref sp0), .unset, .unset, .unset] [(.ref b3)]))
    refine own_to (fun _ kont => XS.dup X10.here hx rfl (hb hby at_99) rfl rfl kont) ?_
    show own_Ends _ _ _ _ (T10.setTop (mkF m 100 #[.val (.int z1), .val (.int z2), .val (.int 0), .val (.int 0), .val (.ref ra0), .val (.ref sp0), .unset, .unset, .unset] [(.ref b3), (.ref b3)]))
    refine own_to (fun _ kont => XS.bipush X10.here hx rfl (hb hby at_100) kont) ?_
    show own_Ends _ _ _ _ (T10.setTop (mkF m 102 #[.val (.int z1), .val (.int z2), .val (.int 0), .val (.int 0), .val (.ref ra0), .val (.ref sp0), .unset, .unset, .unset] [(.int 7), (.ref b3), (.ref b3)]))
    refine own_to (fun _ kont => XS.iconst X10.here hx rfl (hb hby at_102) kont) ?_
    show own_Ends _ _ _ _ (T10.setTop (mkF m 103 #[.val (.int z1), .val (.int z2), .val (.int 0), .val (.int 0), .val (.ref ra0), .val (.ref sp0), .unset, .unset, .unset] [(.int 1), (.int 7), (.ref b3), (.ref b3)]))
    obtain ⟨cl11, Ar11, q11, S11, M11, H11, G11⟩ := Vs10
    have hin11 : ¬ ((7 : Int32) < 0 ∨ cl11.slots.size ≤ ((7 : Int32)).toNatClampNeg) := inb_of S11 ⟨by decide, by decide⟩
    obtain ⟨T11, h11, X11, e11, W11, st11⟩ := stZ X10 hx hZ e10 Ar11 (j := (7 : Int32)) hin11 (g := (mkF m 103 #[.val (.int z1), .val (.int z2), .val (.int (0 : Int32)), .val (.int (0 : Int32)), .val (.ref ra0), .val (.ref sp0), .unset, .unset, .unset] [(.int (1 : Int32)), (.int (7 : Int32)), (.ref b3), (.ref b3)])) rfl rfl (hb hby at_103)
    have Vs11 : Arv Z h11 b3 k3 .boolean (9 : Int32) [(.int (0 : Int32)), (.int (1 : Int32)), (.int (0 : Int32)), (.int (1 : Int32)), (.int (1 : Int32)), (.int (1 : Int32)), (.int (0 : Int32)), (.int (1 : Int32)), (.int (0 : Int32))] (.int (0 : Int32)) := Arv.set Ar11 q11 S11 M11 H11 G11 (fits_nar_bool _) W11 7 rfl (own_lt rfl)
    refine own_to st11 ?_
    have O11 := O10.wr W11 g_b3
    have N11 := Fr.snoc X11 N10 g_b3
    show own_Ends _ _ _ _ (T11.setTop (mkF m 104 #[.val (.int z1), .val (.int z2), .val (.int 0), .val (.int 0), .val (.ref ra0), .val (.ref sp0), .unset, .unset, .unset] [(.ref b3)]))
    refine own_to (fun _ kont => XS.dup X11.here hx rfl (hb hby at_104) rfl rfl kont) ?_
    show own_Ends _ _ _ _ (T11.setTop (mkF m 105 #[.val (.int z1), .val (.int z2), .val (.int 0), .val (.int 0), .val (.ref ra0), .val (.ref sp0), .unset, .unset, .unset] [(.ref b3), (.ref b3)]))
    refine own_to (fun _ kont => XS.bipush X11.here hx rfl (hb hby at_105) kont) ?_
    show own_Ends _ _ _ _ (T11.setTop (mkF m 107 #[.val (.int z1), .val (.int z2), .val (.int 0), .val (.int 0), .val (.ref ra0), .val (.ref sp0), .unset, .unset, .unset] [(.int 8), (.ref b3), (.ref b3)]))
    refine own_to (fun _ kont => XS.iconst X11.here hx rfl (hb hby at_107) kont) ?_
    show own_Ends _ _ _ _ (T11.setTop (mkF m 108 #[.val (.int z1), .val (.int z2), .val (.int 0), .val (.int 0), .val (.ref ra0), .val (.ref sp0), .unset, .unset, .unset] [(.int 0), (.int 8), (.ref b3), (.ref b3)]))
    obtain ⟨cl12, Ar12, q12, S12, M12, H12, G12⟩ := Vs11
    have hin12 : ¬ ((8 : Int32) < 0 ∨ cl12.slots.size ≤ ((8 : Int32)).toNatClampNeg) := inb_of S12 ⟨by decide, by decide⟩
    obtain ⟨T12, h12, X12, e12, W12, st12⟩ := stZ X11 hx hZ e11 Ar12 (j := (8 : Int32)) hin12 (g := (mkF m 108 #[.val (.int z1), .val (.int z2), .val (.int (0 : Int32)), .val (.int (0 : Int32)), .val (.ref ra0), .val (.ref sp0), .unset, .unset, .unset] [(.int (0 : Int32)), (.int (8 : Int32)), (.ref b3), (.ref b3)])) rfl rfl (hb hby at_108)
    have Vs12 : Arv Z h12 b3 k3 .boolean (9 : Int32) [(.int (0 : Int32)), (.int (1 : Int32)), (.int (0 : Int32)), (.int (1 : Int32)), (.int (1 : Int32)), (.int (1 : Int32)), (.int (0 : Int32)), (.int (1 : Int32)), (.int (0 : Int32))] (.int (0 : Int32)) := Arv.set Ar12 q12 S12 M12 H12 G12 (fits_nar_bool _) W12 8 rfl (own_lt rfl)
    refine own_to st12 ?_
    have O12 := O11.wr W12 g_b3
    have N12 := Fr.snoc X12 N11 g_b3
    show own_Ends _ _ _ _ (T12.setTop (mkF m 109 #[.val (.int z1), .val (.int z2), .val (.int 0), .val (.int 0), .val (.ref ra0), .val (.ref sp0), .unset, .unset, .unset] [(.ref b3)]))
    refine own_to (fun _ kont => XS.astore X12.here hx rfl (hb hby at_109) rfl rfl (l' := #[.val (.int z1), .val (.int z2), .val (.int (0 : Int32)), .val (.int (0 : Int32)), .val (.ref ra0), .val (.ref sp0), .val (.ref b3), .unset, .unset]) rfl kont) ?_
    show own_Ends _ _ _ _ (T12.setTop (mkF m 111 #[.val (.int z1), .val (.int z2), .val (.int 0), .val (.int 0), .val (.ref ra0), .val (.ref sp0), .val (.ref b3), .unset, .unset] []))
    refine own_to (fun _ kont => XS.aload X12.here hx rfl (hb hby at_111) rfl rfl kont) ?_
    show own_Ends _ _ _ _ (T12.setTop (mkF m 113 #[.val (.int z1), .val (.int z2), .val (.int 0), .val (.int 0), .val (.ref ra0), .val (.ref sp0), .val (.ref b3), .unset, .unset] [(.ref b3)]))
    refine own_to (fun _ kont => XS.iloadN X12.here hx rfl (hb hby at_113) rfl kont) ?_
    show own_Ends _ _ _ _ (T12.setTop (mkF m 114 #[.val (.int z1), .val (.int z2), .val (.int 0), .val (.int 0), .val (.ref ra0), .val (.ref sp0), .val (.ref b3), .unset, .unset] [(.int 0), (.ref b3)]))
    refine own_to (fun _ kont => XS.iconst X12.here hx rfl (hb hby at_114) kont) ?_
    show own_Ends _ _ _ _ (T12.setTop (mkF m 115 #[.val (.int z1), .val (.int z2), .val (.int 0), .val (.int 0), .val (.ref ra0), .val (.ref sp0), .val (.ref b3), .unset, .unset] [(.int 3), (.int 0), (.ref b3)]))
    refine own_to (fun _ kont => XS.imul X12.here hx rfl (hb hby at_115) rfl kont) ?_
    show own_Ends _ _ _ _ (T12.setTop (mkF m 116 #[.val (.int z1), .val (.int z2), .val (.int 0), .val (.int 0), .val (.ref ra0), .val (.ref sp0), .val (.ref b3), .unset, .unset] [(.int 0), (.ref b3)]))
    refine own_to (fun _ kont => XS.iloadN X12.here hx rfl (hb hby at_116) rfl kont) ?_
    show own_Ends _ _ _ _ (T12.setTop (mkF m 117 #[.val (.int z1), .val (.int z2), .val (.int 0), .val (.int 0), .val (.ref ra0), .val (.ref sp0), .val (.ref b3), .unset, .unset] [(.int 0), (.int 0), (.ref b3)]))
    refine own_to (fun _ kont => XS.iadd X12.here hx rfl (hb hby at_117) rfl kont) ?_
    show own_Ends _ _ _ _ (T12.setTop (mkF m 118 #[.val (.int z1), .val (.int z2), .val (.int 0), .val (.int 0), .val (.ref ra0), .val (.ref sp0), .val (.ref b3), .unset, .unset] [(.int 0), (.ref b3)]))
    obtain ⟨cl13, Ar13, q13, S13, M13, H13, G13⟩ := Vs12
    have hin13 : ¬ ((0 : Int32) < 0 ∨ cl13.slots.size ≤ ((0 : Int32)).toNatClampNeg) := inb_of S13 ⟨by decide, by decide⟩
    have hat13 : cl13.slots[((0 : Int32)).toNatClampNeg]? = some (.int (0 : Int32)) := Has.at H13 hin13 rfl
    refine own_to (fun _ kont => X12.baloadBooleans hx (j := (0 : Int32)) (v := (.int (0 : Int32))) (by rw [e12]; exact Ar13.1) (State.isArrayOf_alike hZ.alike Ar13.2.1) Ar13.2.2 hin13 hat13 (g := (mkF m 118 #[.val (.int z1), .val (.int z2), .val (.int (0 : Int32)), .val (.int (0 : Int32)), .val (.ref ra0), .val (.ref sp0), .val (.ref b3), .unset, .unset] [(.int (0 : Int32)), (.ref b3)])) rfl rfl (hb hby at_118) _ kont) ?_
    show own_Ends _ _ _ _ (T12.setTop (mkF m 119 #[.val (.int z1), .val (.int z2), .val (.int 0), .val (.int 0), .val (.ref ra0), .val (.ref sp0), .val (.ref b3), .unset, .unset] [(.int 0)]))
    refine own_to (fun _ kont => XS.ifYes X12.here hx rfl (pc0 := 119) (pc' := 128) rfl (hb hby at_119) rfl ((if0 _ _).trans (teq (by decide)).1) (by decide) (by decide) kont) ?_
    show own_Ends _ _ _ _ (T12.setTop (mkF m 128 #[.val (.int z1), .val (.int z2), .val (.int 0), .val (.int 0), .val (.ref ra0), .val (.ref sp0), .val (.ref b3), .unset, .unset] []))
    obtain ⟨T14, X14, e14, st14⟩ := getS2 X12 hx hZ hown (host := "") (Or.inl (ow8 hw)) Via.refl e12 (S_el0.ext O12.2) (g := (mkF m 128 #[.val (.int z1), .val (.int z2), .val (.int (0 : Int32)), .val (.int (0 : Int32)), .val (.ref ra0), .val (.ref sp0), .val (.ref b3), .unset, .unset] [])) rfl (hb hby at_128)
    refine own_to st14 ?_
    show own_Ends _ _ _ _ (T14.setTop (mkF m 131 #[.val (.int z1), .val (.int z2), .val (.int 0), .val (.int 0), .val (.ref ra0), .val (.ref sp0), .val (.ref b3), .unset, .unset] [(.ref el0)]))
    refine own_to (fun _ kont => XS.astore X14.here hx rfl (hb hby at_131) rfl rfl (l' := #[.val (.int z1), .val (.int z2), .val (.int (0 : Int32)), .val (.int (0 : Int32)), .val (.ref ra0), .val (.ref sp0), .val (.ref b3), .val (.ref el0), .unset]) rfl kont) ?_
    show own_Ends _ _ _ _ (T14.setTop (mkF m 133 #[.val (.int z1), .val (.int z2), .val (.int 0), .val (.int 0), .val (.ref ra0), .val (.ref sp0), .val (.ref b3), .val (.ref el0), .unset] []))
    refine own_to (fun _ kont => XS.aload X14.here hx rfl (hb hby at_133) rfl rfl kont) ?_
    show own_Ends _ _ _ _ (T14.setTop (mkF m 135 #[.val (.int z1), .val (.int z2), .val (.int 0), .val (.int 0), .val (.ref ra0), .val (.ref sp0), .val (.ref b3), .val (.ref el0), .unset] [(.ref ra0)]))
    refine own_to (fun _ kont => XS.aload X14.here hx rfl (hb hby at_135) rfl rfl kont) ?_
    show own_Ends _ _ _ _ (T14.setTop (mkF m 137 #[.val (.int z1), .val (.int z2), .val (.int 0), .val (.int 0), .val (.ref ra0), .val (.ref sp0), .val (.ref b3), .val (.ref el0), .unset] [(.ref sp0), (.ref ra0)]))
    obtain ⟨_, _, ⟨T15, L15, k15, n15⟩, -, X15, ⟨Lc15, hQ15, l15, y15, z15⟩, st15⟩ := Jvm.LawKit.callS X14 hx (y := oM0) hown (mvT hZ (ow11 hw)) (mvT hZ (ow12 hw)) (mvT hZ (ow9 hw)) (mvT hZ (ow13 hw)) (by decide) (backOf (W := 0) (rm1 l Z a0 hw [] ra0 sp0 ra1 sp1 el1 el0 h12 n0 O12 S_ra1 S_sp1 S_el1 S_el0) hZ (ow13 hw) (ow9 hw) (by decide) (by decide)) (g := (mkF m 137 #[.val (.int z1), .val (.int z2), .val (.int (0 : Int32)), .val (.int (0 : Int32)), .val (.ref ra0), .val (.ref sp0), .val (.ref b3), .val (.ref el0), .unset] [(.ref sp0), (.ref ra0)])) rfl (by rw [hml]; rfl) (argsL := [(.ref ra0), (.ref sp0)]) (rest := []) (lenOf pd_0 rfl) rfl (by show 2 * 0 + _ ≤ _; exact Nat.le_of_eq rfl) (hb hby at_137) (fun _ _ => ⟨rfl, e14, (own_le rfl), (own_le rfl)⟩)
    dsimp only [Pt.U, Pt.locs, Pt.cells, Pt.slots] at X15 l15 y15 z15 st15 hQ15
    subst l15 y15 z15
    obtain ⟨hv15, N15q, E15⟩ := hQ15
    rw [own_of3 (Fld.ne F_ra0 F_ra1 (own_intne (by decide))) (Fld.ne F_sp0 F_sp1 (own_intne (by decide)))] at hv15
    subst hv15
    have N15 := Fr.app N12 N15q
    refine own_to st15 ?_
    show own_Ends _ _ _ _ (T15.setTop (mkF m 140 #[.val (.int z1), .val (.int z2), .val (.int 0), .val (.int 0), .val (.ref ra0), .val (.ref sp0), .val (.ref b3), .val (.ref el0), .unset] [(.ref el0)]))
    refine own_to (fun _ kont => XS.astore X15.here hx rfl (hb hby at_140) rfl rfl (l' := #[.val (.int z1), .val (.int z2), .val (.int (0 : Int32)), .val (.int (0 : Int32)), .val (.ref ra0), .val (.ref sp0), .val (.ref b3), .val (.ref el0), .val (.ref el0)]) rfl kont) ?_
    show own_Ends _ _ _ _ (T15.setTop (mkF m 142 #[.val (.int z1), .val (.int z2), .val (.int 0), .val (.int 0), .val (.ref ra0), .val (.ref sp0), .val (.ref b3), .val (.ref el0), .val (.ref el0)] []))
    refine own_to (fun _ kont => XS.aload X15.here hx rfl (hb hby at_142) rfl rfl kont) ?_
    show own_Ends _ _ _ _ (T15.setTop (mkF m 144 #[.val (.int z1), .val (.int z2), .val (.int 0), .val (.int 0), .val (.ref ra0), .val (.ref sp0), .val (.ref b3), .val (.ref el0), .val (.ref el0)] [(.ref el0)]))
    refine own_to (fun _ kont => XS.ifnullNo X15.here hx rfl (hb hby at_144) rfl kont) ?_
    show own_Ends _ _ _ _ (T15.setTop (mkF m 147 #[.val (.int z1), .val (.int z2), .val (.int 0), .val (.int 0), .val (.ref ra0), .val (.ref sp0), .val (.ref b3), .val (.ref el0), .val (.ref el0)] []))
    refine own_to (fun _ kont => XS.aload X15.here hx rfl (hb hby at_147) rfl rfl kont) ?_
    show own_Ends _ _ _ _ (T15.setTop (mkF m 149 #[.val (.int z1), .val (.int z2), .val (.int 0), .val (.int 0), .val (.ref ra0), .val (.ref sp0), .val (.ref b3), .val (.ref el0), .val (.ref el0)] [(.ref el0)]))
    refine own_to (fun _ kont => XS.aload X15.here hx rfl (hb hby at_149) rfl rfl kont) ?_
    show own_Ends _ _ _ _ (T15.setTop (mkF m 151 #[.val (.int z1), .val (.int z2), .val (.int 0), .val (.int 0), .val (.ref ra0), .val (.ref sp0), .val (.ref b3), .val (.ref el0), .val (.ref el0)] [(.ref el0), (.ref el0)]))
    refine own_to (fun _ kont => Jvm.RoadKit.acmp (g := (mkF m 151 #[.val (.int z1), .val (.int z2), .val (.int (0 : Int32)), .val (.int (0 : Int32)), .val (.ref ra0), .val (.ref sp0), .val (.ref b3), .val (.ref el0), .val (.ref el0)] [(.ref el0), (.ref el0)])) X15 hx rfl rfl rfl (pc0 := 151) (pc' := 154) (same := true) rfl (hb hby at_151) rfl (decide_eq_true rfl) (by decide) (by decide) kont) ?_
    show own_Ends _ _ _ _ (T15.setTop (mkF m 154 #[.val (.int z1), .val (.int z2), .val (.int 0), .val (.int 0), .val (.ref ra0), .val (.ref sp0), .val (.ref b3), .val (.ref el0), .val (.ref el0)] []))
    refine own_to (fun _ kont => XS.iconst X15.here hx rfl (hb hby at_154) kont) ?_
    show own_Ends _ _ _ _ (T15.setTop (mkF m 155 #[.val (.int z1), .val (.int z2), .val (.int 0), .val (.int 0), .val (.ref ra0), .val (.ref sp0), .val (.ref b3), .val (.ref el0), .val (.ref el0)] [(.int 1)]))
    refine own_to (fun _ kont => XS.goto X15.here hx rfl (pc0 := 155) (pc' := 159) rfl (hb hby at_155) (by decide) (by decide) kont) ?_
    show own_Ends _ _ _ _ (T15.setTop (mkF m 159 #[.val (.int z1), .val (.int z2), .val (.int 0), .val (.int 0), .val (.ref ra0), .val (.ref sp0), .val (.ref b3), .val (.ref el0), .val (.ref el0)] [(.int 1)]))
    refine own_leave X15 (v := some (.int (1 : Int32))) (fun h => by rw [Bd.returns] at h; cases h) ?_ (by decide) (by decide) (fun fs hr => retN X15 hx (t := .boolean) Bd.returns (by simp) (hb hby at_159) hr)
    show Q_rm0 Z z1 z2 ra0 sp0 ra1 sp1 ra2 sp2 el0 el1 h0 n0 _ T15.heap _
    rw [E15]
    exact ⟨rfl, N15⟩
  · skip
    show own_Ends _ _ _ _ (s₁.setTop (mkF m 14 #[.val (.int z1), .val (.int z2), .val (.int 0), .val (.int 1), .unset, .unset, .unset, .unset, .unset] []))
    refine own_to (fun _ kont => XS.iloadN X0.here hx rfl (hb hby at_14) rfl kont) ?_
    show own_Ends _ _ _ _ (s₁.setTop (mkF m 15 #[.val (.int z1), .val (.int z2), .val (.int 0), .val (.int 1), .unset, .unset, .unset, .unset, .unset] [(.int 0)]))
    refine own_to (fun _ kont => XS.ifNo X0.here hx rfl (hb hby at_15) rfl ((if0 _ _).trans (teq (by decide)).2) kont) ?_
    show own_Ends _ _ _ _ (s₁.setTop (mkF m 18 #[.val (.int z1), .val (.int z2), .val (.int 0), .val (.int 1), .unset, .unset, .unset, .unset, .unset] []))
    obtain ⟨T16, X16, e16, st16⟩ := getS2 X0 hx hZ hown (host := "") (Or.inl (ow1 hw)) Via.refl e0 (S_ra0.ext O0.2) (g := (mkF m 18 #[.val (.int z1), .val (.int z2), .val (.int (0 : Int32)), .val (.int (1 : Int32)), .unset, .unset, .unset, .unset, .unset] [])) rfl (hb hby at_18)
    refine own_to st16 ?_
    show own_Ends _ _ _ _ (T16.setTop (mkF m 21 #[.val (.int z1), .val (.int z2), .val (.int 0), .val (.int 1), .unset, .unset, .unset, .unset, .unset] [(.ref ra0)]))
    refine own_to (fun _ kont => XS.goto X16.here hx rfl (pc0 := 21) (pc' := 38) rfl (hb hby at_21) (by decide) (by decide) kont) ?_
    show own_Ends _ _ _ _ (T16.setTop (mkF m 38 #[.val (.int z1), .val (.int z2), .val (.int 0), .val (.int 1), .unset, .unset, .unset, .unset, .unset] [(.ref ra0)]))
    refine own_to (fun _ kont => XS.astore X16.here hx rfl (hb hby at_38) rfl rfl (l' := #[.val (.int z1), .val (.int z2), .val (.int (0 : Int32)), .val (.int (1 : Int32)), .val (.ref ra0), .unset, .unset, .unset, .unset]) rfl kont) ?_
    show own_Ends _ _ _ _ (T16.setTop (mkF m 40 #[.val (.int z1), .val (.int z2), .val (.int 0), .val (.int 1), .val (.ref ra0), .unset, .unset, .unset, .unset] []))
    refine own_to (fun _ kont => XS.iloadN X16.here hx rfl (hb hby at_40) rfl kont) ?_
    show own_Ends _ _ _ _ (T16.setTop (mkF m 41 #[.val (.int z1), .val (.int z2), .val (.int 0), .val (.int 1), .val (.ref ra0), .unset, .unset, .unset, .unset] [(.int 1)]))
    refine own_to (fun _ kont => XS.ifYes X16.here hx rfl (pc0 := 41) (pc' := 50) rfl (hb hby at_41) rfl ((if0 _ _).trans (feq (by decide)).2) (by decide) (by decide) kont) ?_
    show own_Ends _ _ _ _ (T16.setTop (mkF m 50 #[.val (.int z1), .val (.int z2), .val (.int 0), .val (.int 1), .val (.ref ra0), .unset, .unset, .unset, .unset] []))
    refine own_to (fun _ kont => XS.iloadN X16.here hx rfl (hb hby at_50) rfl kont) ?_
    show own_Ends _ _ _ _ (T16.setTop (mkF m 51 #[.val (.int z1), .val (.int z2), .val (.int 0), .val (.int 1), .val (.ref ra0), .unset, .unset, .unset, .unset] [(.int 1)]))
    refine own_to (fun _ kont => XS.iconst X16.here hx rfl (hb hby at_51) kont) ?_
    show own_Ends _ _ _ _ (T16.setTop (mkF m 52 #[.val (.int z1), .val (.int z2), .val (.int 0), .val (.int 1), .val (.ref ra0), .unset, .unset, .unset, .unset] [(.int 1), (.int 1)]))
    refine own_to (fun _ kont => XS.icmpNo X16.here hx rfl (hb hby at_52) rfl (teq (by decide)).2 kont) ?_
    show own_Ends _ _ _ _ (T16.setTop (mkF m 55 #[.val (.int z1), .val (.int z2), .val (.int 0), .val (.int 1), .val (.ref ra0), .unset, .unset, .unset, .unset] []))
    obtain ⟨T17, X17, e17, st17⟩ := getS2 X16 hx hZ hown (host := "") (Or.inl (ow21 hw)) Via.refl e16 (S_sp1.ext O0.2) (g := (mkF m 55 #[.val (.int z1), .val (.int z2), .val (.int (0 : Int32)), .val (.int (1 : Int32)), .val (.ref ra0), .unset, .unset, .unset, .unset] [])) rfl (hb hby at_55)
    refine own_to st17 ?_
    show own_Ends _ _ _ _ (T17.setTop (mkF m 58 #[.val (.int z1), .val (.int z2), .val (.int 0), .val (.int 1), .val (.ref ra0), .unset, .unset, .unset, .unset] [(.ref sp1)]))
    refine own_to (fun _ kont => XS.goto X17.here hx rfl (pc0 := 58) (pc' := 64) rfl (hb hby at_58) (by decide) (by decide) kont) ?_
    show own_Ends _ _ _ _ (T17.setTop (mkF m 64 #[.val (.int z1), .val (.int z2), .val (.int 0), .val (.int 1), .val (.ref ra0), .unset, .unset, .unset, .unset] [(.ref sp1)]))
    refine own_to (fun _ kont => XS.astore X17.here hx rfl (hb hby at_64) rfl rfl (l' := #[.val (.int z1), .val (.int z2), .val (.int (0 : Int32)), .val (.int (1 : Int32)), .val (.ref ra0), .val (.ref sp1), .unset, .unset, .unset]) rfl kont) ?_
    show own_Ends _ _ _ _ (T17.setTop (mkF m 66 #[.val (.int z1), .val (.int z2), .val (.int 0), .val (.int 1), .val (.ref ra0), .val (.ref sp1), .unset, .unset, .unset] []))
    refine own_to (fun _ kont => XS.bipush X17.here hx rfl (hb hby at_66) kont) ?_
    show own_Ends _ _ _ _ (T17.setTop (mkF m 68 #[.val (.int z1), .val (.int z2), .val (.int 0), .val (.int 1), .val (.ref ra0), .val (.ref sp1), .unset, .unset, .unset] [(.int 9)]))
    obtain ⟨T18, h18, k18, X18, e18, E18, A18, st18⟩ := newP X17 hx hZ (aty := .boolean) (ow7 hw) e17 (g := (mkF m 68 #[.val (.int z1), .val (.int z2), .val (.int (0 : Int32)), .val (.int (1 : Int32)), .val (.ref ra0), .val (.ref sp1), .unset, .unset, .unset] [(.int (9 : Int32))])) rfl (hb hby at_68) rfl (by decide) (cap := 9) (by decide) (by decide) (by decide) (by decide)
    obtain ⟨b18, g18⟩ : ∃ z, z = h0.size := ⟨_, rfl⟩
    rw [← g18] at A18 st18
    have g_b18 : n0 ≤ b18 := Nat.le_trans (own_old_le O0) (Nat.le_of_eq g18.symm)
    refine own_to st18 ?_
    have O18 := O0.ext E18
    have Vn18 : Arv Z h18 b18 k18 .boolean (9 : Int32) [(.int (0 : Int32)), (.int (0 : Int32)), (.int (0 : Int32)), (.int (0 : Int32)), (.int (0 : Int32)), (.int (0 : Int32)), (.int (0 : Int32)), (.int (0 : Int32)), (.int (0 : Int32))] (.int (0 : Int32)) := (Arv.new A18 (by decide)).pad (pad_rep [] (.int (0 : Int32)) 9)
    show own_Ends _ _ _ _ (T18.setTop (mkF m 70 #[.val (.int z1), .val (.int z2), .val (.int 0), .val (.int 1), .val (.ref ra0), .val (.ref sp1), .unset, .unset, .unset] [(.ref b18)]))
    refine own_to (fun _ kont => XS.dup X18.here hx rfl (hb hby at_70) rfl rfl kont) ?_
    show own_Ends _ _ _ _ (T18.setTop (mkF m 71 #[.val (.int z1), .val (.int z2), .val (.int 0), .val (.int 1), .val (.ref ra0), .val (.ref sp1), .unset, .unset, .unset] [(.ref b18), (.ref b18)]))
    refine own_to (fun _ kont => XS.iconst X18.here hx rfl (hb hby at_71) kont) ?_
    show own_Ends _ _ _ _ (T18.setTop (mkF m 72 #[.val (.int z1), .val (.int z2), .val (.int 0), .val (.int 1), .val (.ref ra0), .val (.ref sp1), .unset, .unset, .unset] [(.int 0), (.ref b18), (.ref b18)]))
    refine own_to (fun _ kont => XS.iconst X18.here hx rfl (hb hby at_72) kont) ?_
    show own_Ends _ _ _ _ (T18.setTop (mkF m 73 #[.val (.int z1), .val (.int z2), .val (.int 0), .val (.int 1), .val (.ref ra0), .val (.ref sp1), .unset, .unset, .unset] [(.int 0), (.int 0), (.ref b18), (.ref b18)]))
    obtain ⟨cl19, Ar19, q19, S19, M19, H19, G19⟩ := Vn18
    have hin19 : ¬ ((0 : Int32) < 0 ∨ cl19.slots.size ≤ ((0 : Int32)).toNatClampNeg) := inb_of S19 ⟨by decide, by decide⟩
    obtain ⟨T19, h19, X19, e19, W19, st19⟩ := stZ X18 hx hZ e18 Ar19 (j := (0 : Int32)) hin19 (g := (mkF m 73 #[.val (.int z1), .val (.int z2), .val (.int (0 : Int32)), .val (.int (1 : Int32)), .val (.ref ra0), .val (.ref sp1), .unset, .unset, .unset] [(.int (0 : Int32)), (.int (0 : Int32)), (.ref b18), (.ref b18)])) rfl rfl (hb hby at_73)
    have Vs19 : Arv Z h19 b18 k18 .boolean (9 : Int32) [(.int (0 : Int32)), (.int (0 : Int32)), (.int (0 : Int32)), (.int (0 : Int32)), (.int (0 : Int32)), (.int (0 : Int32)), (.int (0 : Int32)), (.int (0 : Int32)), (.int (0 : Int32))] (.int (0 : Int32)) := Arv.set Ar19 q19 S19 M19 H19 G19 (fits_nar_bool _) W19 0 rfl (own_lt rfl)
    refine own_to st19 ?_
    have O19 := O18.wr W19 g_b18
    have N19 := Fr.snoc X19 N0 g_b18
    show own_Ends _ _ _ _ (T19.setTop (mkF m 74 #[.val (.int z1), .val (.int z2), .val (.int 0), .val (.int 1), .val (.ref ra0), .val (.ref sp1), .unset, .unset, .unset] [(.ref b18)]))
    refine own_to (fun _ kont => XS.dup X19.here hx rfl (hb hby at_74) rfl rfl kont) ?_
    show own_Ends _ _ _ _ (T19.setTop (mkF m 75 #[.val (.int z1), .val (.int z2), .val (.int 0), .val (.int 1), .val (.ref ra0), .val (.ref sp1), .unset, .unset, .unset] [(.ref b18), (.ref b18)]))
    refine own_to (fun _ kont => XS.iconst X19.here hx rfl (hb hby at_75) kont) ?_
    show own_Ends _ _ _ _ (T19.setTop (mkF m 76 #[.val (.int z1), .val (.int z2), .val (.int 0), .val (.int 1), .val (.ref ra0), .val (.ref sp1), .unset, .unset, .unset] [(.int 1), (.ref b18), (.ref b18)]))
    refine own_to (fun _ kont => XS.iconst X19.here hx rfl (hb hby at_76) kont) ?_
    show own_Ends _ _ _ _ (T19.setTop (mkF m 77 #[.val (.int z1), .val (.int z2), .val (.int 0), .val (.int 1), .val (.ref ra0), .val (.ref sp1), .unset, .unset, .unset] [(.int 1), (.int 1), (.ref b18), (.ref b18)]))
    obtain ⟨cl20, Ar20, q20, S20, M20, H20, G20⟩ := Vs19
    have hin20 : ¬ ((1 : Int32) < 0 ∨ cl20.slots.size ≤ ((1 : Int32)).toNatClampNeg) := inb_of S20 ⟨by decide, by decide⟩
    obtain ⟨T20, h20, X20, e20, W20, st20⟩ := stZ X19 hx hZ e19 Ar20 (j := (1 : Int32)) hin20 (g := (mkF m 77 #[.val (.int z1), .val (.int z2), .val (.int (0 : Int32)), .val (.int (1 : Int32)), .val (.ref ra0), .val (.ref sp1), .unset, .unset, .unset] [(.int (1 : Int32)), (.int (1 : Int32)), (.ref b18), (.ref b18)])) rfl rfl (hb hby at_77)
    have Vs20 : Arv Z h20 b18 k18 .boolean (9 : Int32) [(.int (0 : Int32)), (.int (1 : Int32)), (.int (0 : Int32)), (.int (0 : Int32)), (.int (0 : Int32)), (.int (0 : Int32)), (.int (0 : Int32)), (.int (0 : Int32)), (.int (0 : Int32))] (.int (0 : Int32)) := Arv.set Ar20 q20 S20 M20 H20 G20 (fits_nar_bool _) W20 1 rfl (own_lt rfl)
    refine own_to st20 ?_
    have O20 := O19.wr W20 g_b18
    have N20 := Fr.snoc X20 N19 g_b18
    show own_Ends _ _ _ _ (T20.setTop (mkF m 78 #[.val (.int z1), .val (.int z2), .val (.int 0), .val (.int 1), .val (.ref ra0), .val (.ref sp1), .unset, .unset, .unset] [(.ref b18)]))
    refine own_to (fun _ kont => XS.dup X20.here hx rfl (hb hby at_78) rfl rfl kont) ?_
    show own_Ends _ _ _ _ (T20.setTop (mkF m 79 #[.val (.int z1), .val (.int z2), .val (.int 0), .val (.int 1), .val (.ref ra0), .val (.ref sp1), .unset, .unset, .unset] [(.ref b18), (.ref b18)]))
    refine own_to (fun _ kont => XS.iconst X20.here hx rfl (hb hby at_79) kont) ?_
    show own_Ends _ _ _ _ (T20.setTop (mkF m 80 #[.val (.int z1), .val (.int z2), .val (.int 0), .val (.int 1), .val (.ref ra0), .val (.ref sp1), .unset, .unset, .unset] [(.int 2), (.ref b18), (.ref b18)]))
    refine own_to (fun _ kont => XS.iconst X20.here hx rfl (hb hby at_80) kont) ?_
    show own_Ends _ _ _ _ (T20.setTop (mkF m 81 #[.val (.int z1), .val (.int z2), .val (.int 0), .val (.int 1), .val (.ref ra0), .val (.ref sp1), .unset, .unset, .unset] [(.int 0), (.int 2), (.ref b18), (.ref b18)]))
    obtain ⟨cl21, Ar21, q21, S21, M21, H21, G21⟩ := Vs20
    have hin21 : ¬ ((2 : Int32) < 0 ∨ cl21.slots.size ≤ ((2 : Int32)).toNatClampNeg) := inb_of S21 ⟨by decide, by decide⟩
    obtain ⟨T21, h21, X21, e21, W21, st21⟩ := stZ X20 hx hZ e20 Ar21 (j := (2 : Int32)) hin21 (g := (mkF m 81 #[.val (.int z1), .val (.int z2), .val (.int (0 : Int32)), .val (.int (1 : Int32)), .val (.ref ra0), .val (.ref sp1), .unset, .unset, .unset] [(.int (0 : Int32)), (.int (2 : Int32)), (.ref b18), (.ref b18)])) rfl rfl (hb hby at_81)
    have Vs21 : Arv Z h21 b18 k18 .boolean (9 : Int32) [(.int (0 : Int32)), (.int (1 : Int32)), (.int (0 : Int32)), (.int (0 : Int32)), (.int (0 : Int32)), (.int (0 : Int32)), (.int (0 : Int32)), (.int (0 : Int32)), (.int (0 : Int32))] (.int (0 : Int32)) := Arv.set Ar21 q21 S21 M21 H21 G21 (fits_nar_bool _) W21 2 rfl (own_lt rfl)
    refine own_to st21 ?_
    have O21 := O20.wr W21 g_b18
    have N21 := Fr.snoc X21 N20 g_b18
    show own_Ends _ _ _ _ (T21.setTop (mkF m 82 #[.val (.int z1), .val (.int z2), .val (.int 0), .val (.int 1), .val (.ref ra0), .val (.ref sp1), .unset, .unset, .unset] [(.ref b18)]))
    refine own_to (fun _ kont => XS.dup X21.here hx rfl (hb hby at_82) rfl rfl kont) ?_
    show own_Ends _ _ _ _ (T21.setTop (mkF m 83 #[.val (.int z1), .val (.int z2), .val (.int 0), .val (.int 1), .val (.ref ra0), .val (.ref sp1), .unset, .unset, .unset] [(.ref b18), (.ref b18)]))
    refine own_to (fun _ kont => XS.iconst X21.here hx rfl (hb hby at_83) kont) ?_
    show own_Ends _ _ _ _ (T21.setTop (mkF m 84 #[.val (.int z1), .val (.int z2), .val (.int 0), .val (.int 1), .val (.ref ra0), .val (.ref sp1), .unset, .unset, .unset] [(.int 3), (.ref b18), (.ref b18)]))
    refine own_to (fun _ kont => XS.iconst X21.here hx rfl (hb hby at_84) kont) ?_
    show own_Ends _ _ _ _ (T21.setTop (mkF m 85 #[.val (.int z1), .val (.int z2), .val (.int 0), .val (.int 1), .val (.ref ra0), .val (.ref sp1), .unset, .unset, .unset] [(.int 1), (.int 3), (.ref b18), (.ref b18)]))
    obtain ⟨cl22, Ar22, q22, S22, M22, H22, G22⟩ := Vs21
    have hin22 : ¬ ((3 : Int32) < 0 ∨ cl22.slots.size ≤ ((3 : Int32)).toNatClampNeg) := inb_of S22 ⟨by decide, by decide⟩
    obtain ⟨T22, h22, X22, e22, W22, st22⟩ := stZ X21 hx hZ e21 Ar22 (j := (3 : Int32)) hin22 (g := (mkF m 85 #[.val (.int z1), .val (.int z2), .val (.int (0 : Int32)), .val (.int (1 : Int32)), .val (.ref ra0), .val (.ref sp1), .unset, .unset, .unset] [(.int (1 : Int32)), (.int (3 : Int32)), (.ref b18), (.ref b18)])) rfl rfl (hb hby at_85)
    have Vs22 : Arv Z h22 b18 k18 .boolean (9 : Int32) [(.int (0 : Int32)), (.int (1 : Int32)), (.int (0 : Int32)), (.int (1 : Int32)), (.int (0 : Int32)), (.int (0 : Int32)), (.int (0 : Int32)), (.int (0 : Int32)), (.int (0 : Int32))] (.int (0 : Int32)) := Arv.set Ar22 q22 S22 M22 H22 G22 (fits_nar_bool _) W22 3 rfl (own_lt rfl)
    refine own_to st22 ?_
    have O22 := O21.wr W22 g_b18
    have N22 := Fr.snoc X22 N21 g_b18
    show own_Ends _ _ _ _ (T22.setTop (mkF m 86 #[.val (.int z1), .val (.int z2), .val (.int 0), .val (.int 1), .val (.ref ra0), .val (.ref sp1), .unset, .unset, .unset] [(.ref b18)]))
    refine own_to (fun _ kont => XS.dup X22.here hx rfl (hb hby at_86) rfl rfl kont) ?_
    show own_Ends _ _ _ _ (T22.setTop (mkF m 87 #[.val (.int z1), .val (.int z2), .val (.int 0), .val (.int 1), .val (.ref ra0), .val (.ref sp1), .unset, .unset, .unset] [(.ref b18), (.ref b18)]))
    refine own_to (fun _ kont => XS.iconst X22.here hx rfl (hb hby at_87) kont) ?_
    show own_Ends _ _ _ _ (T22.setTop (mkF m 88 #[.val (.int z1), .val (.int z2), .val (.int 0), .val (.int 1), .val (.ref ra0), .val (.ref sp1), .unset, .unset, .unset] [(.int 4), (.ref b18), (.ref b18)]))
    refine own_to (fun _ kont => XS.iconst X22.here hx rfl (hb hby at_88) kont) ?_
    show own_Ends _ _ _ _ (T22.setTop (mkF m 89 #[.val (.int z1), .val (.int z2), .val (.int 0), .val (.int 1), .val (.ref ra0), .val (.ref sp1), .unset, .unset, .unset] [(.int 1), (.int 4), (.ref b18), (.ref b18)]))
    obtain ⟨cl23, Ar23, q23, S23, M23, H23, G23⟩ := Vs22
    have hin23 : ¬ ((4 : Int32) < 0 ∨ cl23.slots.size ≤ ((4 : Int32)).toNatClampNeg) := inb_of S23 ⟨by decide, by decide⟩
    obtain ⟨T23, h23, X23, e23, W23, st23⟩ := stZ X22 hx hZ e22 Ar23 (j := (4 : Int32)) hin23 (g := (mkF m 89 #[.val (.int z1), .val (.int z2), .val (.int (0 : Int32)), .val (.int (1 : Int32)), .val (.ref ra0), .val (.ref sp1), .unset, .unset, .unset] [(.int (1 : Int32)), (.int (4 : Int32)), (.ref b18), (.ref b18)])) rfl rfl (hb hby at_89)
    have Vs23 : Arv Z h23 b18 k18 .boolean (9 : Int32) [(.int (0 : Int32)), (.int (1 : Int32)), (.int (0 : Int32)), (.int (1 : Int32)), (.int (1 : Int32)), (.int (0 : Int32)), (.int (0 : Int32)), (.int (0 : Int32)), (.int (0 : Int32))] (.int (0 : Int32)) := Arv.set Ar23 q23 S23 M23 H23 G23 (fits_nar_bool _) W23 4 rfl (own_lt rfl)
    refine own_to st23 ?_
    have O23 := O22.wr W23 g_b18
    have N23 := Fr.snoc X23 N22 g_b18
    show own_Ends _ _ _ _ (T23.setTop (mkF m 90 #[.val (.int z1), .val (.int z2), .val (.int 0), .val (.int 1), .val (.ref ra0), .val (.ref sp1), .unset, .unset, .unset] [(.ref b18)]))
    refine own_to (fun _ kont => XS.dup X23.here hx rfl (hb hby at_90) rfl rfl kont) ?_
    show own_Ends _ _ _ _ (T23.setTop (mkF m 91 #[.val (.int z1), .val (.int z2), .val (.int 0), .val (.int 1), .val (.ref ra0), .val (.ref sp1), .unset, .unset, .unset] [(.ref b18), (.ref b18)]))
    refine own_to (fun _ kont => XS.iconst X23.here hx rfl (hb hby at_91) kont) ?_
    show own_Ends _ _ _ _ (T23.setTop (mkF m 92 #[.val (.int z1), .val (.int z2), .val (.int 0), .val (.int 1), .val (.ref ra0), .val (.ref sp1), .unset, .unset, .unset] [(.int 5), (.ref b18), (.ref b18)]))
    refine own_to (fun _ kont => XS.iconst X23.here hx rfl (hb hby at_92) kont) ?_
    show own_Ends _ _ _ _ (T23.setTop (mkF m 93 #[.val (.int z1), .val (.int z2), .val (.int 0), .val (.int 1), .val (.ref ra0), .val (.ref sp1), .unset, .unset, .unset] [(.int 1), (.int 5), (.ref b18), (.ref b18)]))
    obtain ⟨cl24, Ar24, q24, S24, M24, H24, G24⟩ := Vs23
    have hin24 : ¬ ((5 : Int32) < 0 ∨ cl24.slots.size ≤ ((5 : Int32)).toNatClampNeg) := inb_of S24 ⟨by decide, by decide⟩
    obtain ⟨T24, h24, X24, e24, W24, st24⟩ := stZ X23 hx hZ e23 Ar24 (j := (5 : Int32)) hin24 (g := (mkF m 93 #[.val (.int z1), .val (.int z2), .val (.int (0 : Int32)), .val (.int (1 : Int32)), .val (.ref ra0), .val (.ref sp1), .unset, .unset, .unset] [(.int (1 : Int32)), (.int (5 : Int32)), (.ref b18), (.ref b18)])) rfl rfl (hb hby at_93)
    have Vs24 : Arv Z h24 b18 k18 .boolean (9 : Int32) [(.int (0 : Int32)), (.int (1 : Int32)), (.int (0 : Int32)), (.int (1 : Int32)), (.int (1 : Int32)), (.int (1 : Int32)), (.int (0 : Int32)), (.int (0 : Int32)), (.int (0 : Int32))] (.int (0 : Int32)) := Arv.set Ar24 q24 S24 M24 H24 G24 (fits_nar_bool _) W24 5 rfl (own_lt rfl)
    refine own_to st24 ?_
    have O24 := O23.wr W24 g_b18
    have N24 := Fr.snoc X24 N23 g_b18
    show own_Ends _ _ _ _ (T24.setTop (mkF m 94 #[.val (.int z1), .val (.int z2), .val (.int 0), .val (.int 1), .val (.ref ra0), .val (.ref sp1), .unset, .unset, .unset] [(.ref b18)]))
    refine own_to (fun _ kont => XS.dup X24.here hx rfl (hb hby at_94) rfl rfl kont) ?_
    show own_Ends _ _ _ _ (T24.setTop (mkF m 95 #[.val (.int z1), .val (.int z2), .val (.int 0), .val (.int 1), .val (.ref ra0), .val (.ref sp1), .unset, .unset, .unset] [(.ref b18), (.ref b18)]))
    refine own_to (fun _ kont => XS.bipush X24.here hx rfl (hb hby at_95) kont) ?_
    show own_Ends _ _ _ _ (T24.setTop (mkF m 97 #[.val (.int z1), .val (.int z2), .val (.int 0), .val (.int 1), .val (.ref ra0), .val (.ref sp1), .unset, .unset, .unset] [(.int 6), (.ref b18), (.ref b18)]))
    refine own_to (fun _ kont => XS.iconst X24.here hx rfl (hb hby at_97) kont) ?_
    show own_Ends _ _ _ _ (T24.setTop (mkF m 98 #[.val (.int z1), .val (.int z2), .val (.int 0), .val (.int 1), .val (.ref ra0), .val (.ref sp1), .unset, .unset, .unset] [(.int 0), (.int 6), (.ref b18), (.ref b18)]))
    obtain ⟨cl25, Ar25, q25, S25, M25, H25, G25⟩ := Vs24
    have hin25 : ¬ ((6 : Int32) < 0 ∨ cl25.slots.size ≤ ((6 : Int32)).toNatClampNeg) := inb_of S25 ⟨by decide, by decide⟩
    obtain ⟨T25, h25, X25, e25, W25, st25⟩ := stZ X24 hx hZ e24 Ar25 (j := (6 : Int32)) hin25 (g := (mkF m 98 #[.val (.int z1), .val (.int z2), .val (.int (0 : Int32)), .val (.int (1 : Int32)), .val (.ref ra0), .val (.ref sp1), .unset, .unset, .unset] [(.int (0 : Int32)), (.int (6 : Int32)), (.ref b18), (.ref b18)])) rfl rfl (hb hby at_98)
    have Vs25 : Arv Z h25 b18 k18 .boolean (9 : Int32) [(.int (0 : Int32)), (.int (1 : Int32)), (.int (0 : Int32)), (.int (1 : Int32)), (.int (1 : Int32)), (.int (1 : Int32)), (.int (0 : Int32)), (.int (0 : Int32)), (.int (0 : Int32))] (.int (0 : Int32)) := Arv.set Ar25 q25 S25 M25 H25 G25 (fits_nar_bool _) W25 6 rfl (own_lt rfl)
    refine own_to st25 ?_
    have O25 := O24.wr W25 g_b18
    have N25 := Fr.snoc X25 N24 g_b18
    show own_Ends _ _ _ _ (T25.setTop (mkF m 99 #[.val (.int z1), .val (.int z2), .val (.int 0), .val (.int 1), .val (.ref ra0), .val (.ref sp1), .unset, .unset, .unset] [(.ref b18)]))
    refine own_to (fun _ kont => XS.dup X25.here hx rfl (hb hby at_99) rfl rfl kont) ?_
    show own_Ends _ _ _ _ (T25.setTop (mkF m 100 #[.val (.int z1), .val (.int z2), .val (.int 0), .val (.int 1), .val (.ref ra0), .val (.ref sp1), .unset, .unset, .unset] [(.ref b18), (.ref b18)]))
    refine own_to (fun _ kont => XS.bipush X25.here hx rfl (hb hby at_100) kont) ?_
    show own_Ends _ _ _ _ (T25.setTop (mkF m 102 #[.val (.int z1), .val (.int z2), .val (.int 0), .val (.int 1), .val (.ref ra0), .val (.ref sp1), .unset, .unset, .unset] [(.int 7), (.ref b18), (.ref b18)]))
    refine own_to (fun _ kont => XS.iconst X25.here hx rfl (hb hby at_102) kont) ?_
    show own_Ends _ _ _ _ (T25.setTop (mkF m 103 #[.val (.int z1), .val (.int z2), .val (.int 0), .val (.int 1), .val (.ref ra0), .val (.ref sp1), .unset, .unset, .unset] [(.int 1), (.int 7), (.ref b18), (.ref b18)]))
    obtain ⟨cl26, Ar26, q26, S26, M26, H26, G26⟩ := Vs25
    have hin26 : ¬ ((7 : Int32) < 0 ∨ cl26.slots.size ≤ ((7 : Int32)).toNatClampNeg) := inb_of S26 ⟨by decide, by decide⟩
    obtain ⟨T26, h26, X26, e26, W26, st26⟩ := stZ X25 hx hZ e25 Ar26 (j := (7 : Int32)) hin26 (g := (mkF m 103 #[.val (.int z1), .val (.int z2), .val (.int (0 : Int32)), .val (.int (1 : Int32)), .val (.ref ra0), .val (.ref sp1), .unset, .unset, .unset] [(.int (1 : Int32)), (.int (7 : Int32)), (.ref b18), (.ref b18)])) rfl rfl (hb hby at_103)
    have Vs26 : Arv Z h26 b18 k18 .boolean (9 : Int32) [(.int (0 : Int32)), (.int (1 : Int32)), (.int (0 : Int32)), (.int (1 : Int32)), (.int (1 : Int32)), (.int (1 : Int32)), (.int (0 : Int32)), (.int (1 : Int32)), (.int (0 : Int32))] (.int (0 : Int32)) := Arv.set Ar26 q26 S26 M26 H26 G26 (fits_nar_bool _) W26 7 rfl (own_lt rfl)
    refine own_to st26 ?_
    have O26 := O25.wr W26 g_b18
    have N26 := Fr.snoc X26 N25 g_b18
    show own_Ends _ _ _ _ (T26.setTop (mkF m 104 #[.val (.int z1), .val (.int z2), .val (.int 0), .val (.int 1), .val (.ref ra0), .val (.ref sp1), .unset, .unset, .unset] [(.ref b18)]))
    refine own_to (fun _ kont => XS.dup X26.here hx rfl (hb hby at_104) rfl rfl kont) ?_
    show own_Ends _ _ _ _ (T26.setTop (mkF m 105 #[.val (.int z1), .val (.int z2), .val (.int 0), .val (.int 1), .val (.ref ra0), .val (.ref sp1), .unset, .unset, .unset] [(.ref b18), (.ref b18)]))
    refine own_to (fun _ kont => XS.bipush X26.here hx rfl (hb hby at_105) kont) ?_
    show own_Ends _ _ _ _ (T26.setTop (mkF m 107 #[.val (.int z1), .val (.int z2), .val (.int 0), .val (.int 1), .val (.ref ra0), .val (.ref sp1), .unset, .unset, .unset] [(.int 8), (.ref b18), (.ref b18)]))
    refine own_to (fun _ kont => XS.iconst X26.here hx rfl (hb hby at_107) kont) ?_
    show own_Ends _ _ _ _ (T26.setTop (mkF m 108 #[.val (.int z1), .val (.int z2), .val (.int 0), .val (.int 1), .val (.ref ra0), .val (.ref sp1), .unset, .unset, .unset] [(.int 0), (.int 8), (.ref b18), (.ref b18)]))
    obtain ⟨cl27, Ar27, q27, S27, M27, H27, G27⟩ := Vs26
    have hin27 : ¬ ((8 : Int32) < 0 ∨ cl27.slots.size ≤ ((8 : Int32)).toNatClampNeg) := inb_of S27 ⟨by decide, by decide⟩
    obtain ⟨T27, h27, X27, e27, W27, st27⟩ := stZ X26 hx hZ e26 Ar27 (j := (8 : Int32)) hin27 (g := (mkF m 108 #[.val (.int z1), .val (.int z2), .val (.int (0 : Int32)), .val (.int (1 : Int32)), .val (.ref ra0), .val (.ref sp1), .unset, .unset, .unset] [(.int (0 : Int32)), (.int (8 : Int32)), (.ref b18), (.ref b18)])) rfl rfl (hb hby at_108)
    have Vs27 : Arv Z h27 b18 k18 .boolean (9 : Int32) [(.int (0 : Int32)), (.int (1 : Int32)), (.int (0 : Int32)), (.int (1 : Int32)), (.int (1 : Int32)), (.int (1 : Int32)), (.int (0 : Int32)), (.int (1 : Int32)), (.int (0 : Int32))] (.int (0 : Int32)) := Arv.set Ar27 q27 S27 M27 H27 G27 (fits_nar_bool _) W27 8 rfl (own_lt rfl)
    refine own_to st27 ?_
    have O27 := O26.wr W27 g_b18
    have N27 := Fr.snoc X27 N26 g_b18
    show own_Ends _ _ _ _ (T27.setTop (mkF m 109 #[.val (.int z1), .val (.int z2), .val (.int 0), .val (.int 1), .val (.ref ra0), .val (.ref sp1), .unset, .unset, .unset] [(.ref b18)]))
    refine own_to (fun _ kont => XS.astore X27.here hx rfl (hb hby at_109) rfl rfl (l' := #[.val (.int z1), .val (.int z2), .val (.int (0 : Int32)), .val (.int (1 : Int32)), .val (.ref ra0), .val (.ref sp1), .val (.ref b18), .unset, .unset]) rfl kont) ?_
    show own_Ends _ _ _ _ (T27.setTop (mkF m 111 #[.val (.int z1), .val (.int z2), .val (.int 0), .val (.int 1), .val (.ref ra0), .val (.ref sp1), .val (.ref b18), .unset, .unset] []))
    refine own_to (fun _ kont => XS.aload X27.here hx rfl (hb hby at_111) rfl rfl kont) ?_
    show own_Ends _ _ _ _ (T27.setTop (mkF m 113 #[.val (.int z1), .val (.int z2), .val (.int 0), .val (.int 1), .val (.ref ra0), .val (.ref sp1), .val (.ref b18), .unset, .unset] [(.ref b18)]))
    refine own_to (fun _ kont => XS.iloadN X27.here hx rfl (hb hby at_113) rfl kont) ?_
    show own_Ends _ _ _ _ (T27.setTop (mkF m 114 #[.val (.int z1), .val (.int z2), .val (.int 0), .val (.int 1), .val (.ref ra0), .val (.ref sp1), .val (.ref b18), .unset, .unset] [(.int 0), (.ref b18)]))
    refine own_to (fun _ kont => XS.iconst X27.here hx rfl (hb hby at_114) kont) ?_
    show own_Ends _ _ _ _ (T27.setTop (mkF m 115 #[.val (.int z1), .val (.int z2), .val (.int 0), .val (.int 1), .val (.ref ra0), .val (.ref sp1), .val (.ref b18), .unset, .unset] [(.int 3), (.int 0), (.ref b18)]))
    refine own_to (fun _ kont => XS.imul X27.here hx rfl (hb hby at_115) rfl kont) ?_
    show own_Ends _ _ _ _ (T27.setTop (mkF m 116 #[.val (.int z1), .val (.int z2), .val (.int 0), .val (.int 1), .val (.ref ra0), .val (.ref sp1), .val (.ref b18), .unset, .unset] [(.int 0), (.ref b18)]))
    refine own_to (fun _ kont => XS.iloadN X27.here hx rfl (hb hby at_116) rfl kont) ?_
    show own_Ends _ _ _ _ (T27.setTop (mkF m 117 #[.val (.int z1), .val (.int z2), .val (.int 0), .val (.int 1), .val (.ref ra0), .val (.ref sp1), .val (.ref b18), .unset, .unset] [(.int 1), (.int 0), (.ref b18)]))
    refine own_to (fun _ kont => XS.iadd X27.here hx rfl (hb hby at_117) rfl kont) ?_
    show own_Ends _ _ _ _ (T27.setTop (mkF m 118 #[.val (.int z1), .val (.int z2), .val (.int 0), .val (.int 1), .val (.ref ra0), .val (.ref sp1), .val (.ref b18), .unset, .unset] [(.int 1), (.ref b18)]))
    obtain ⟨cl28, Ar28, q28, S28, M28, H28, G28⟩ := Vs27
    have hin28 : ¬ ((1 : Int32) < 0 ∨ cl28.slots.size ≤ ((1 : Int32)).toNatClampNeg) := inb_of S28 ⟨by decide, by decide⟩
    have hat28 : cl28.slots[((1 : Int32)).toNatClampNeg]? = some (.int (1 : Int32)) := Has.at H28 hin28 rfl
    refine own_to (fun _ kont => X27.baloadBooleans hx (j := (1 : Int32)) (v := (.int (1 : Int32))) (by rw [e27]; exact Ar28.1) (State.isArrayOf_alike hZ.alike Ar28.2.1) Ar28.2.2 hin28 hat28 (g := (mkF m 118 #[.val (.int z1), .val (.int z2), .val (.int (0 : Int32)), .val (.int (1 : Int32)), .val (.ref ra0), .val (.ref sp1), .val (.ref b18), .unset, .unset] [(.int (1 : Int32)), (.ref b18)])) rfl rfl (hb hby at_118) _ kont) ?_
    show own_Ends _ _ _ _ (T27.setTop (mkF m 119 #[.val (.int z1), .val (.int z2), .val (.int 0), .val (.int 1), .val (.ref ra0), .val (.ref sp1), .val (.ref b18), .unset, .unset] [(.int 1)]))
    refine own_to (fun _ kont => XS.ifNo X27.here hx rfl (hb hby at_119) rfl ((if0 _ _).trans (feq (by decide)).1) kont) ?_
    show own_Ends _ _ _ _ (T27.setTop (mkF m 122 #[.val (.int z1), .val (.int z2), .val (.int 0), .val (.int 1), .val (.ref ra0), .val (.ref sp1), .val (.ref b18), .unset, .unset] []))
    obtain ⟨T29, X29, e29, st29⟩ := getS2 X27 hx hZ hown (host := "") (Or.inl (ow22 hw)) Via.refl e27 (S_el1.ext O27.2) (g := (mkF m 122 #[.val (.int z1), .val (.int z2), .val (.int (0 : Int32)), .val (.int (1 : Int32)), .val (.ref ra0), .val (.ref sp1), .val (.ref b18), .unset, .unset] [])) rfl (hb hby at_122)
    refine own_to st29 ?_
    show own_Ends _ _ _ _ (T29.setTop (mkF m 125 #[.val (.int z1), .val (.int z2), .val (.int 0), .val (.int 1), .val (.ref ra0), .val (.ref sp1), .val (.ref b18), .unset, .unset] [(.ref el1)]))
    refine own_to (fun _ kont => XS.goto X29.here hx rfl (pc0 := 125) (pc' := 131) rfl (hb hby at_125) (by decide) (by decide) kont) ?_
    show own_Ends _ _ _ _ (T29.setTop (mkF m 131 #[.val (.int z1), .val (.int z2), .val (.int 0), .val (.int 1), .val (.ref ra0), .val (.ref sp1), .val (.ref b18), .unset, .unset] [(.ref el1)]))
    refine own_to (fun _ kont => XS.astore X29.here hx rfl (hb hby at_131) rfl rfl (l' := #[.val (.int z1), .val (.int z2), .val (.int (0 : Int32)), .val (.int (1 : Int32)), .val (.ref ra0), .val (.ref sp1), .val (.ref b18), .val (.ref el1), .unset]) rfl kont) ?_
    show own_Ends _ _ _ _ (T29.setTop (mkF m 133 #[.val (.int z1), .val (.int z2), .val (.int 0), .val (.int 1), .val (.ref ra0), .val (.ref sp1), .val (.ref b18), .val (.ref el1), .unset] []))
    refine own_to (fun _ kont => XS.aload X29.here hx rfl (hb hby at_133) rfl rfl kont) ?_
    show own_Ends _ _ _ _ (T29.setTop (mkF m 135 #[.val (.int z1), .val (.int z2), .val (.int 0), .val (.int 1), .val (.ref ra0), .val (.ref sp1), .val (.ref b18), .val (.ref el1), .unset] [(.ref ra0)]))
    refine own_to (fun _ kont => XS.aload X29.here hx rfl (hb hby at_135) rfl rfl kont) ?_
    show own_Ends _ _ _ _ (T29.setTop (mkF m 137 #[.val (.int z1), .val (.int z2), .val (.int 0), .val (.int 1), .val (.ref ra0), .val (.ref sp1), .val (.ref b18), .val (.ref el1), .unset] [(.ref sp1), (.ref ra0)]))
    obtain ⟨_, _, ⟨T30, L30, k30, n30⟩, -, X30, ⟨Lc30, hQ30, l30, y30, z30⟩, st30⟩ := Jvm.LawKit.callS X29 hx (y := oM0) hown (mvT hZ (ow11 hw)) (mvT hZ (ow12 hw)) (mvT hZ (ow9 hw)) (mvT hZ (ow13 hw)) (by decide) (backOf (W := 0) (rm1 l Z a0 hw [] ra0 sp1 ra1 sp1 el1 el0 h27 n0 O27 S_ra1 S_sp1 S_el1 S_el0) hZ (ow13 hw) (ow9 hw) (by decide) (by decide)) (g := (mkF m 137 #[.val (.int z1), .val (.int z2), .val (.int (0 : Int32)), .val (.int (1 : Int32)), .val (.ref ra0), .val (.ref sp1), .val (.ref b18), .val (.ref el1), .unset] [(.ref sp1), (.ref ra0)])) rfl (by rw [hml]; rfl) (argsL := [(.ref ra0), (.ref sp1)]) (rest := []) (lenOf pd_0 rfl) rfl (by show 2 * 0 + _ ≤ _; exact Nat.le_of_eq rfl) (hb hby at_137) (fun _ _ => ⟨rfl, e29, (own_le rfl), (own_le rfl)⟩)
    dsimp only [Pt.U, Pt.locs, Pt.cells, Pt.slots] at X30 l30 y30 z30 st30 hQ30
    subst l30 y30 z30
    obtain ⟨hv30, N30q, E30⟩ := hQ30
    rw [own_of2 (Fld.ne F_ra0 F_ra1 (own_intne (by decide)))] at hv30
    subst hv30
    have N30 := Fr.app N27 N30q
    refine own_to st30 ?_
    show own_Ends _ _ _ _ (T30.setTop (mkF m 140 #[.val (.int z1), .val (.int z2), .val (.int 0), .val (.int 1), .val (.ref ra0), .val (.ref sp1), .val (.ref b18), .val (.ref el1), .unset] [(.ref el1)]))
    refine own_to (fun _ kont => XS.astore X30.here hx rfl (hb hby at_140) rfl rfl (l' := #[.val (.int z1), .val (.int z2), .val (.int (0 : Int32)), .val (.int (1 : Int32)), .val (.ref ra0), .val (.ref sp1), .val (.ref b18), .val (.ref el1), .val (.ref el1)]) rfl kont) ?_
    show own_Ends _ _ _ _ (T30.setTop (mkF m 142 #[.val (.int z1), .val (.int z2), .val (.int 0), .val (.int 1), .val (.ref ra0), .val (.ref sp1), .val (.ref b18), .val (.ref el1), .val (.ref el1)] []))
    refine own_to (fun _ kont => XS.aload X30.here hx rfl (hb hby at_142) rfl rfl kont) ?_
    show own_Ends _ _ _ _ (T30.setTop (mkF m 144 #[.val (.int z1), .val (.int z2), .val (.int 0), .val (.int 1), .val (.ref ra0), .val (.ref sp1), .val (.ref b18), .val (.ref el1), .val (.ref el1)] [(.ref el1)]))
    refine own_to (fun _ kont => XS.ifnullNo X30.here hx rfl (hb hby at_144) rfl kont) ?_
    show own_Ends _ _ _ _ (T30.setTop (mkF m 147 #[.val (.int z1), .val (.int z2), .val (.int 0), .val (.int 1), .val (.ref ra0), .val (.ref sp1), .val (.ref b18), .val (.ref el1), .val (.ref el1)] []))
    refine own_to (fun _ kont => XS.aload X30.here hx rfl (hb hby at_147) rfl rfl kont) ?_
    show own_Ends _ _ _ _ (T30.setTop (mkF m 149 #[.val (.int z1), .val (.int z2), .val (.int 0), .val (.int 1), .val (.ref ra0), .val (.ref sp1), .val (.ref b18), .val (.ref el1), .val (.ref el1)] [(.ref el1)]))
    refine own_to (fun _ kont => XS.aload X30.here hx rfl (hb hby at_149) rfl rfl kont) ?_
    show own_Ends _ _ _ _ (T30.setTop (mkF m 151 #[.val (.int z1), .val (.int z2), .val (.int 0), .val (.int 1), .val (.ref ra0), .val (.ref sp1), .val (.ref b18), .val (.ref el1), .val (.ref el1)] [(.ref el1), (.ref el1)]))
    refine own_to (fun _ kont => Jvm.RoadKit.acmp (g := (mkF m 151 #[.val (.int z1), .val (.int z2), .val (.int (0 : Int32)), .val (.int (1 : Int32)), .val (.ref ra0), .val (.ref sp1), .val (.ref b18), .val (.ref el1), .val (.ref el1)] [(.ref el1), (.ref el1)])) X30 hx rfl rfl rfl (pc0 := 151) (pc' := 154) (same := true) rfl (hb hby at_151) rfl (decide_eq_true rfl) (by decide) (by decide) kont) ?_
    show own_Ends _ _ _ _ (T30.setTop (mkF m 154 #[.val (.int z1), .val (.int z2), .val (.int 0), .val (.int 1), .val (.ref ra0), .val (.ref sp1), .val (.ref b18), .val (.ref el1), .val (.ref el1)] []))
    refine own_to (fun _ kont => XS.iconst X30.here hx rfl (hb hby at_154) kont) ?_
    show own_Ends _ _ _ _ (T30.setTop (mkF m 155 #[.val (.int z1), .val (.int z2), .val (.int 0), .val (.int 1), .val (.ref ra0), .val (.ref sp1), .val (.ref b18), .val (.ref el1), .val (.ref el1)] [(.int 1)]))
    refine own_to (fun _ kont => XS.goto X30.here hx rfl (pc0 := 155) (pc' := 159) rfl (hb hby at_155) (by decide) (by decide) kont) ?_
    show own_Ends _ _ _ _ (T30.setTop (mkF m 159 #[.val (.int z1), .val (.int z2), .val (.int 0), .val (.int 1), .val (.ref ra0), .val (.ref sp1), .val (.ref b18), .val (.ref el1), .val (.ref el1)] [(.int 1)]))
    refine own_leave X30 (v := some (.int (1 : Int32))) (fun h => by rw [Bd.returns] at h; cases h) ?_ (by decide) (by decide) (fun fs hr => retN X30 hx (t := .boolean) Bd.returns (by simp) (hb hby at_159) hr)
    show Q_rm0 Z z1 z2 ra0 sp0 ra1 sp1 ra2 sp2 el0 el1 h0 n0 _ T30.heap _
    rw [E30]
    exact ⟨rfl, N30⟩
  · skip
    show own_Ends _ _ _ _ (s₁.setTop (mkF m 14 #[.val (.int z1), .val (.int z2), .val (.int 0), .val (.int 2), .unset, .unset, .unset, .unset, .unset] []))
    refine own_to (fun _ kont => XS.iloadN X0.here hx rfl (hb hby at_14) rfl kont) ?_
    show own_Ends _ _ _ _ (s₁.setTop (mkF m 15 #[.val (.int z1), .val (.int z2), .val (.int 0), .val (.int 2), .unset, .unset, .unset, .unset, .unset] [(.int 0)]))
    refine own_to (fun _ kont => XS.ifNo X0.here hx rfl (hb hby at_15) rfl ((if0 _ _).trans (teq (by decide)).2) kont) ?_
    show own_Ends _ _ _ _ (s₁.setTop (mkF m 18 #[.val (.int z1), .val (.int z2), .val (.int 0), .val (.int 2), .unset, .unset, .unset, .unset, .unset] []))
    obtain ⟨T31, X31, e31, st31⟩ := getS2 X0 hx hZ hown (host := "") (Or.inl (ow1 hw)) Via.refl e0 (S_ra0.ext O0.2) (g := (mkF m 18 #[.val (.int z1), .val (.int z2), .val (.int (0 : Int32)), .val (.int (2 : Int32)), .unset, .unset, .unset, .unset, .unset] [])) rfl (hb hby at_18)
    refine own_to st31 ?_
    show own_Ends _ _ _ _ (T31.setTop (mkF m 21 #[.val (.int z1), .val (.int z2), .val (.int 0), .val (.int 2), .unset, .unset, .unset, .unset, .unset] [(.ref ra0)]))
    refine own_to (fun _ kont => XS.goto X31.here hx rfl (pc0 := 21) (pc' := 38) rfl (hb hby at_21) (by decide) (by decide) kont) ?_
    show own_Ends _ _ _ _ (T31.setTop (mkF m 38 #[.val (.int z1), .val (.int z2), .val (.int 0), .val (.int 2), .unset, .unset, .unset, .unset, .unset] [(.ref ra0)]))
    refine own_to (fun _ kont => XS.astore X31.here hx rfl (hb hby at_38) rfl rfl (l' := #[.val (.int z1), .val (.int z2), .val (.int (0 : Int32)), .val (.int (2 : Int32)), .val (.ref ra0), .unset, .unset, .unset, .unset]) rfl kont) ?_
    show own_Ends _ _ _ _ (T31.setTop (mkF m 40 #[.val (.int z1), .val (.int z2), .val (.int 0), .val (.int 2), .val (.ref ra0), .unset, .unset, .unset, .unset] []))
    refine own_to (fun _ kont => XS.iloadN X31.here hx rfl (hb hby at_40) rfl kont) ?_
    show own_Ends _ _ _ _ (T31.setTop (mkF m 41 #[.val (.int z1), .val (.int z2), .val (.int 0), .val (.int 2), .val (.ref ra0), .unset, .unset, .unset, .unset] [(.int 2)]))
    refine own_to (fun _ kont => XS.ifYes X31.here hx rfl (pc0 := 41) (pc' := 50) rfl (hb hby at_41) rfl ((if0 _ _).trans (feq (by decide)).2) (by decide) (by decide) kont) ?_
    show own_Ends _ _ _ _ (T31.setTop (mkF m 50 #[.val (.int z1), .val (.int z2), .val (.int 0), .val (.int 2), .val (.ref ra0), .unset, .unset, .unset, .unset] []))
    refine own_to (fun _ kont => XS.iloadN X31.here hx rfl (hb hby at_50) rfl kont) ?_
    show own_Ends _ _ _ _ (T31.setTop (mkF m 51 #[.val (.int z1), .val (.int z2), .val (.int 0), .val (.int 2), .val (.ref ra0), .unset, .unset, .unset, .unset] [(.int 2)]))
    refine own_to (fun _ kont => XS.iconst X31.here hx rfl (hb hby at_51) kont) ?_
    show own_Ends _ _ _ _ (T31.setTop (mkF m 52 #[.val (.int z1), .val (.int z2), .val (.int 0), .val (.int 2), .val (.ref ra0), .unset, .unset, .unset, .unset] [(.int 1), (.int 2)]))
    refine own_to (fun _ kont => XS.icmpYes X31.here hx rfl (pc0 := 52) (pc' := 61) rfl (hb hby at_52) rfl (feq (by decide)).2 (by decide) (by decide) kont) ?_
    show own_Ends _ _ _ _ (T31.setTop (mkF m 61 #[.val (.int z1), .val (.int z2), .val (.int 0), .val (.int 2), .val (.ref ra0), .unset, .unset, .unset, .unset] []))
    obtain ⟨T32, X32, e32, st32⟩ := getS2 X31 hx hZ hown (host := "") (Or.inl (ow25 hw)) Via.refl e31 (S_sp2.ext O0.2) (g := (mkF m 61 #[.val (.int z1), .val (.int z2), .val (.int (0 : Int32)), .val (.int (2 : Int32)), .val (.ref ra0), .unset, .unset, .unset, .unset] [])) rfl (hb hby at_61)
    refine own_to st32 ?_
    show own_Ends _ _ _ _ (T32.setTop (mkF m 64 #[.val (.int z1), .val (.int z2), .val (.int 0), .val (.int 2), .val (.ref ra0), .unset, .unset, .unset, .unset] [(.ref sp2)]))
    refine own_to (fun _ kont => XS.astore X32.here hx rfl (hb hby at_64) rfl rfl (l' := #[.val (.int z1), .val (.int z2), .val (.int (0 : Int32)), .val (.int (2 : Int32)), .val (.ref ra0), .val (.ref sp2), .unset, .unset, .unset]) rfl kont) ?_
    show own_Ends _ _ _ _ (T32.setTop (mkF m 66 #[.val (.int z1), .val (.int z2), .val (.int 0), .val (.int 2), .val (.ref ra0), .val (.ref sp2), .unset, .unset, .unset] []))
    refine own_to (fun _ kont => XS.bipush X32.here hx rfl (hb hby at_66) kont) ?_
    show own_Ends _ _ _ _ (T32.setTop (mkF m 68 #[.val (.int z1), .val (.int z2), .val (.int 0), .val (.int 2), .val (.ref ra0), .val (.ref sp2), .unset, .unset, .unset] [(.int 9)]))
    obtain ⟨T33, h33, k33, X33, e33, E33, A33, st33⟩ := newP X32 hx hZ (aty := .boolean) (ow7 hw) e32 (g := (mkF m 68 #[.val (.int z1), .val (.int z2), .val (.int (0 : Int32)), .val (.int (2 : Int32)), .val (.ref ra0), .val (.ref sp2), .unset, .unset, .unset] [(.int (9 : Int32))])) rfl (hb hby at_68) rfl (by decide) (cap := 9) (by decide) (by decide) (by decide) (by decide)
    obtain ⟨b33, g33⟩ : ∃ z, z = h0.size := ⟨_, rfl⟩
    rw [← g33] at A33 st33
    have g_b33 : n0 ≤ b33 := Nat.le_trans (own_old_le O0) (Nat.le_of_eq g33.symm)
    refine own_to st33 ?_
    have O33 := O0.ext E33
    have Vn33 : Arv Z h33 b33 k33 .boolean (9 : Int32) [(.int (0 : Int32)), (.int (0 : Int32)), (.int (0 : Int32)), (.int (0 : Int32)), (.int (0 : Int32)), (.int (0 : Int32)), (.int (0 : Int32)), (.int (0 : Int32)), (.int (0 : Int32))] (.int (0 : Int32)) := (Arv.new A33 (by decide)).pad (pad_rep [] (.int (0 : Int32)) 9)
    show own_Ends _ _ _ _ (T33.setTop (mkF m 70 #[.val (.int z1), .val (.int z2), .val (.int 0), .val (.int 2), .val (.ref ra0), .val (.ref sp2), .unset, .unset, .unset] [(.ref b33)]))
    refine own_to (fun _ kont => XS.dup X33.here hx rfl (hb hby at_70) rfl rfl kont) ?_
    show own_Ends _ _ _ _ (T33.setTop (mkF m 71 #[.val (.int z1), .val (.int z2), .val (.int 0), .val (.int 2), .val (.ref ra0), .val (.ref sp2), .unset, .unset, .unset] [(.ref b33), (.ref b33)]))
    refine own_to (fun _ kont => XS.iconst X33.here hx rfl (hb hby at_71) kont) ?_
    show own_Ends _ _ _ _ (T33.setTop (mkF m 72 #[.val (.int z1), .val (.int z2), .val (.int 0), .val (.int 2), .val (.ref ra0), .val (.ref sp2), .unset, .unset, .unset] [(.int 0), (.ref b33), (.ref b33)]))
    refine own_to (fun _ kont => XS.iconst X33.here hx rfl (hb hby at_72) kont) ?_
    show own_Ends _ _ _ _ (T33.setTop (mkF m 73 #[.val (.int z1), .val (.int z2), .val (.int 0), .val (.int 2), .val (.ref ra0), .val (.ref sp2), .unset, .unset, .unset] [(.int 0), (.int 0), (.ref b33), (.ref b33)]))
    obtain ⟨cl34, Ar34, q34, S34, M34, H34, G34⟩ := Vn33
    have hin34 : ¬ ((0 : Int32) < 0 ∨ cl34.slots.size ≤ ((0 : Int32)).toNatClampNeg) := inb_of S34 ⟨by decide, by decide⟩
    obtain ⟨T34, h34, X34, e34, W34, st34⟩ := stZ X33 hx hZ e33 Ar34 (j := (0 : Int32)) hin34 (g := (mkF m 73 #[.val (.int z1), .val (.int z2), .val (.int (0 : Int32)), .val (.int (2 : Int32)), .val (.ref ra0), .val (.ref sp2), .unset, .unset, .unset] [(.int (0 : Int32)), (.int (0 : Int32)), (.ref b33), (.ref b33)])) rfl rfl (hb hby at_73)
    have Vs34 : Arv Z h34 b33 k33 .boolean (9 : Int32) [(.int (0 : Int32)), (.int (0 : Int32)), (.int (0 : Int32)), (.int (0 : Int32)), (.int (0 : Int32)), (.int (0 : Int32)), (.int (0 : Int32)), (.int (0 : Int32)), (.int (0 : Int32))] (.int (0 : Int32)) := Arv.set Ar34 q34 S34 M34 H34 G34 (fits_nar_bool _) W34 0 rfl (own_lt rfl)
    refine own_to st34 ?_
    have O34 := O33.wr W34 g_b33
    have N34 := Fr.snoc X34 N0 g_b33
    show own_Ends _ _ _ _ (T34.setTop (mkF m 74 #[.val (.int z1), .val (.int z2), .val (.int 0), .val (.int 2), .val (.ref ra0), .val (.ref sp2), .unset, .unset, .unset] [(.ref b33)]))
    refine own_to (fun _ kont => XS.dup X34.here hx rfl (hb hby at_74) rfl rfl kont) ?_
    show own_Ends _ _ _ _ (T34.setTop (mkF m 75 #[.val (.int z1), .val (.int z2), .val (.int 0), .val (.int 2), .val (.ref ra0), .val (.ref sp2), .unset, .unset, .unset] [(.ref b33), (.ref b33)]))
    refine own_to (fun _ kont => XS.iconst X34.here hx rfl (hb hby at_75) kont) ?_
    show own_Ends _ _ _ _ (T34.setTop (mkF m 76 #[.val (.int z1), .val (.int z2), .val (.int 0), .val (.int 2), .val (.ref ra0), .val (.ref sp2), .unset, .unset, .unset] [(.int 1), (.ref b33), (.ref b33)]))
    refine own_to (fun _ kont => XS.iconst X34.here hx rfl (hb hby at_76) kont) ?_
    show own_Ends _ _ _ _ (T34.setTop (mkF m 77 #[.val (.int z1), .val (.int z2), .val (.int 0), .val (.int 2), .val (.ref ra0), .val (.ref sp2), .unset, .unset, .unset] [(.int 1), (.int 1), (.ref b33), (.ref b33)]))
    obtain ⟨cl35, Ar35, q35, S35, M35, H35, G35⟩ := Vs34
    have hin35 : ¬ ((1 : Int32) < 0 ∨ cl35.slots.size ≤ ((1 : Int32)).toNatClampNeg) := inb_of S35 ⟨by decide, by decide⟩
    obtain ⟨T35, h35, X35, e35, W35, st35⟩ := stZ X34 hx hZ e34 Ar35 (j := (1 : Int32)) hin35 (g := (mkF m 77 #[.val (.int z1), .val (.int z2), .val (.int (0 : Int32)), .val (.int (2 : Int32)), .val (.ref ra0), .val (.ref sp2), .unset, .unset, .unset] [(.int (1 : Int32)), (.int (1 : Int32)), (.ref b33), (.ref b33)])) rfl rfl (hb hby at_77)
    have Vs35 : Arv Z h35 b33 k33 .boolean (9 : Int32) [(.int (0 : Int32)), (.int (1 : Int32)), (.int (0 : Int32)), (.int (0 : Int32)), (.int (0 : Int32)), (.int (0 : Int32)), (.int (0 : Int32)), (.int (0 : Int32)), (.int (0 : Int32))] (.int (0 : Int32)) := Arv.set Ar35 q35 S35 M35 H35 G35 (fits_nar_bool _) W35 1 rfl (own_lt rfl)
    refine own_to st35 ?_
    have O35 := O34.wr W35 g_b33
    have N35 := Fr.snoc X35 N34 g_b33
    show own_Ends _ _ _ _ (T35.setTop (mkF m 78 #[.val (.int z1), .val (.int z2), .val (.int 0), .val (.int 2), .val (.ref ra0), .val (.ref sp2), .unset, .unset, .unset] [(.ref b33)]))
    refine own_to (fun _ kont => XS.dup X35.here hx rfl (hb hby at_78) rfl rfl kont) ?_
    show own_Ends _ _ _ _ (T35.setTop (mkF m 79 #[.val (.int z1), .val (.int z2), .val (.int 0), .val (.int 2), .val (.ref ra0), .val (.ref sp2), .unset, .unset, .unset] [(.ref b33), (.ref b33)]))
    refine own_to (fun _ kont => XS.iconst X35.here hx rfl (hb hby at_79) kont) ?_
    show own_Ends _ _ _ _ (T35.setTop (mkF m 80 #[.val (.int z1), .val (.int z2), .val (.int 0), .val (.int 2), .val (.ref ra0), .val (.ref sp2), .unset, .unset, .unset] [(.int 2), (.ref b33), (.ref b33)]))
    refine own_to (fun _ kont => XS.iconst X35.here hx rfl (hb hby at_80) kont) ?_
    show own_Ends _ _ _ _ (T35.setTop (mkF m 81 #[.val (.int z1), .val (.int z2), .val (.int 0), .val (.int 2), .val (.ref ra0), .val (.ref sp2), .unset, .unset, .unset] [(.int 0), (.int 2), (.ref b33), (.ref b33)]))
    obtain ⟨cl36, Ar36, q36, S36, M36, H36, G36⟩ := Vs35
    have hin36 : ¬ ((2 : Int32) < 0 ∨ cl36.slots.size ≤ ((2 : Int32)).toNatClampNeg) := inb_of S36 ⟨by decide, by decide⟩
    obtain ⟨T36, h36, X36, e36, W36, st36⟩ := stZ X35 hx hZ e35 Ar36 (j := (2 : Int32)) hin36 (g := (mkF m 81 #[.val (.int z1), .val (.int z2), .val (.int (0 : Int32)), .val (.int (2 : Int32)), .val (.ref ra0), .val (.ref sp2), .unset, .unset, .unset] [(.int (0 : Int32)), (.int (2 : Int32)), (.ref b33), (.ref b33)])) rfl rfl (hb hby at_81)
    have Vs36 : Arv Z h36 b33 k33 .boolean (9 : Int32) [(.int (0 : Int32)), (.int (1 : Int32)), (.int (0 : Int32)), (.int (0 : Int32)), (.int (0 : Int32)), (.int (0 : Int32)), (.int (0 : Int32)), (.int (0 : Int32)), (.int (0 : Int32))] (.int (0 : Int32)) := Arv.set Ar36 q36 S36 M36 H36 G36 (fits_nar_bool _) W36 2 rfl (own_lt rfl)
    refine own_to st36 ?_
    have O36 := O35.wr W36 g_b33
    have N36 := Fr.snoc X36 N35 g_b33
    show own_Ends _ _ _ _ (T36.setTop (mkF m 82 #[.val (.int z1), .val (.int z2), .val (.int 0), .val (.int 2), .val (.ref ra0), .val (.ref sp2), .unset, .unset, .unset] [(.ref b33)]))
    refine own_to (fun _ kont => XS.dup X36.here hx rfl (hb hby at_82) rfl rfl kont) ?_
    show own_Ends _ _ _ _ (T36.setTop (mkF m 83 #[.val (.int z1), .val (.int z2), .val (.int 0), .val (.int 2), .val (.ref ra0), .val (.ref sp2), .unset, .unset, .unset] [(.ref b33), (.ref b33)]))
    refine own_to (fun _ kont => XS.iconst X36.here hx rfl (hb hby at_83) kont) ?_
    show own_Ends _ _ _ _ (T36.setTop (mkF m 84 #[.val (.int z1), .val (.int z2), .val (.int 0), .val (.int 2), .val (.ref ra0), .val (.ref sp2), .unset, .unset, .unset] [(.int 3), (.ref b33), (.ref b33)]))
    refine own_to (fun _ kont => XS.iconst X36.here hx rfl (hb hby at_84) kont) ?_
    show own_Ends _ _ _ _ (T36.setTop (mkF m 85 #[.val (.int z1), .val (.int z2), .val (.int 0), .val (.int 2), .val (.ref ra0), .val (.ref sp2), .unset, .unset, .unset] [(.int 1), (.int 3), (.ref b33), (.ref b33)]))
    obtain ⟨cl37, Ar37, q37, S37, M37, H37, G37⟩ := Vs36
    have hin37 : ¬ ((3 : Int32) < 0 ∨ cl37.slots.size ≤ ((3 : Int32)).toNatClampNeg) := inb_of S37 ⟨by decide, by decide⟩
    obtain ⟨T37, h37, X37, e37, W37, st37⟩ := stZ X36 hx hZ e36 Ar37 (j := (3 : Int32)) hin37 (g := (mkF m 85 #[.val (.int z1), .val (.int z2), .val (.int (0 : Int32)), .val (.int (2 : Int32)), .val (.ref ra0), .val (.ref sp2), .unset, .unset, .unset] [(.int (1 : Int32)), (.int (3 : Int32)), (.ref b33), (.ref b33)])) rfl rfl (hb hby at_85)
    have Vs37 : Arv Z h37 b33 k33 .boolean (9 : Int32) [(.int (0 : Int32)), (.int (1 : Int32)), (.int (0 : Int32)), (.int (1 : Int32)), (.int (0 : Int32)), (.int (0 : Int32)), (.int (0 : Int32)), (.int (0 : Int32)), (.int (0 : Int32))] (.int (0 : Int32)) := Arv.set Ar37 q37 S37 M37 H37 G37 (fits_nar_bool _) W37 3 rfl (own_lt rfl)
    refine own_to st37 ?_
    have O37 := O36.wr W37 g_b33
    have N37 := Fr.snoc X37 N36 g_b33
    show own_Ends _ _ _ _ (T37.setTop (mkF m 86 #[.val (.int z1), .val (.int z2), .val (.int 0), .val (.int 2), .val (.ref ra0), .val (.ref sp2), .unset, .unset, .unset] [(.ref b33)]))
    refine own_to (fun _ kont => XS.dup X37.here hx rfl (hb hby at_86) rfl rfl kont) ?_
    show own_Ends _ _ _ _ (T37.setTop (mkF m 87 #[.val (.int z1), .val (.int z2), .val (.int 0), .val (.int 2), .val (.ref ra0), .val (.ref sp2), .unset, .unset, .unset] [(.ref b33), (.ref b33)]))
    refine own_to (fun _ kont => XS.iconst X37.here hx rfl (hb hby at_87) kont) ?_
    show own_Ends _ _ _ _ (T37.setTop (mkF m 88 #[.val (.int z1), .val (.int z2), .val (.int 0), .val (.int 2), .val (.ref ra0), .val (.ref sp2), .unset, .unset, .unset] [(.int 4), (.ref b33), (.ref b33)]))
    refine own_to (fun _ kont => XS.iconst X37.here hx rfl (hb hby at_88) kont) ?_
    show own_Ends _ _ _ _ (T37.setTop (mkF m 89 #[.val (.int z1), .val (.int z2), .val (.int 0), .val (.int 2), .val (.ref ra0), .val (.ref sp2), .unset, .unset, .unset] [(.int 1), (.int 4), (.ref b33), (.ref b33)]))
    obtain ⟨cl38, Ar38, q38, S38, M38, H38, G38⟩ := Vs37
    have hin38 : ¬ ((4 : Int32) < 0 ∨ cl38.slots.size ≤ ((4 : Int32)).toNatClampNeg) := inb_of S38 ⟨by decide, by decide⟩
    obtain ⟨T38, h38, X38, e38, W38, st38⟩ := stZ X37 hx hZ e37 Ar38 (j := (4 : Int32)) hin38 (g := (mkF m 89 #[.val (.int z1), .val (.int z2), .val (.int (0 : Int32)), .val (.int (2 : Int32)), .val (.ref ra0), .val (.ref sp2), .unset, .unset, .unset] [(.int (1 : Int32)), (.int (4 : Int32)), (.ref b33), (.ref b33)])) rfl rfl (hb hby at_89)
    have Vs38 : Arv Z h38 b33 k33 .boolean (9 : Int32) [(.int (0 : Int32)), (.int (1 : Int32)), (.int (0 : Int32)), (.int (1 : Int32)), (.int (1 : Int32)), (.int (0 : Int32)), (.int (0 : Int32)), (.int (0 : Int32)), (.int (0 : Int32))] (.int (0 : Int32)) := Arv.set Ar38 q38 S38 M38 H38 G38 (fits_nar_bool _) W38 4 rfl (own_lt rfl)
    refine own_to st38 ?_
    have O38 := O37.wr W38 g_b33
    have N38 := Fr.snoc X38 N37 g_b33
    show own_Ends _ _ _ _ (T38.setTop (mkF m 90 #[.val (.int z1), .val (.int z2), .val (.int 0), .val (.int 2), .val (.ref ra0), .val (.ref sp2), .unset, .unset, .unset] [(.ref b33)]))
    refine own_to (fun _ kont => XS.dup X38.here hx rfl (hb hby at_90) rfl rfl kont) ?_
    show own_Ends _ _ _ _ (T38.setTop (mkF m 91 #[.val (.int z1), .val (.int z2), .val (.int 0), .val (.int 2), .val (.ref ra0), .val (.ref sp2), .unset, .unset, .unset] [(.ref b33), (.ref b33)]))
    refine own_to (fun _ kont => XS.iconst X38.here hx rfl (hb hby at_91) kont) ?_
    show own_Ends _ _ _ _ (T38.setTop (mkF m 92 #[.val (.int z1), .val (.int z2), .val (.int 0), .val (.int 2), .val (.ref ra0), .val (.ref sp2), .unset, .unset, .unset] [(.int 5), (.ref b33), (.ref b33)]))
    refine own_to (fun _ kont => XS.iconst X38.here hx rfl (hb hby at_92) kont) ?_
    show own_Ends _ _ _ _ (T38.setTop (mkF m 93 #[.val (.int z1), .val (.int z2), .val (.int 0), .val (.int 2), .val (.ref ra0), .val (.ref sp2), .unset, .unset, .unset] [(.int 1), (.int 5), (.ref b33), (.ref b33)]))
    obtain ⟨cl39, Ar39, q39, S39, M39, H39, G39⟩ := Vs38
    have hin39 : ¬ ((5 : Int32) < 0 ∨ cl39.slots.size ≤ ((5 : Int32)).toNatClampNeg) := inb_of S39 ⟨by decide, by decide⟩
    obtain ⟨T39, h39, X39, e39, W39, st39⟩ := stZ X38 hx hZ e38 Ar39 (j := (5 : Int32)) hin39 (g := (mkF m 93 #[.val (.int z1), .val (.int z2), .val (.int (0 : Int32)), .val (.int (2 : Int32)), .val (.ref ra0), .val (.ref sp2), .unset, .unset, .unset] [(.int (1 : Int32)), (.int (5 : Int32)), (.ref b33), (.ref b33)])) rfl rfl (hb hby at_93)
    have Vs39 : Arv Z h39 b33 k33 .boolean (9 : Int32) [(.int (0 : Int32)), (.int (1 : Int32)), (.int (0 : Int32)), (.int (1 : Int32)), (.int (1 : Int32)), (.int (1 : Int32)), (.int (0 : Int32)), (.int (0 : Int32)), (.int (0 : Int32))] (.int (0 : Int32)) := Arv.set Ar39 q39 S39 M39 H39 G39 (fits_nar_bool _) W39 5 rfl (own_lt rfl)
    refine own_to st39 ?_
    have O39 := O38.wr W39 g_b33
    have N39 := Fr.snoc X39 N38 g_b33
    show own_Ends _ _ _ _ (T39.setTop (mkF m 94 #[.val (.int z1), .val (.int z2), .val (.int 0), .val (.int 2), .val (.ref ra0), .val (.ref sp2), .unset, .unset, .unset] [(.ref b33)]))
    refine own_to (fun _ kont => XS.dup X39.here hx rfl (hb hby at_94) rfl rfl kont) ?_
    show own_Ends _ _ _ _ (T39.setTop (mkF m 95 #[.val (.int z1), .val (.int z2), .val (.int 0), .val (.int 2), .val (.ref ra0), .val (.ref sp2), .unset, .unset, .unset] [(.ref b33), (.ref b33)]))
    refine own_to (fun _ kont => XS.bipush X39.here hx rfl (hb hby at_95) kont) ?_
    show own_Ends _ _ _ _ (T39.setTop (mkF m 97 #[.val (.int z1), .val (.int z2), .val (.int 0), .val (.int 2), .val (.ref ra0), .val (.ref sp2), .unset, .unset, .unset] [(.int 6), (.ref b33), (.ref b33)]))
    refine own_to (fun _ kont => XS.iconst X39.here hx rfl (hb hby at_97) kont) ?_
    show own_Ends _ _ _ _ (T39.setTop (mkF m 98 #[.val (.int z1), .val (.int z2), .val (.int 0), .val (.int 2), .val (.ref ra0), .val (.ref sp2), .unset, .unset, .unset] [(.int 0), (.int 6), (.ref b33), (.ref b33)]))
    obtain ⟨cl40, Ar40, q40, S40, M40, H40, G40⟩ := Vs39
    have hin40 : ¬ ((6 : Int32) < 0 ∨ cl40.slots.size ≤ ((6 : Int32)).toNatClampNeg) := inb_of S40 ⟨by decide, by decide⟩
    obtain ⟨T40, h40, X40, e40, W40, st40⟩ := stZ X39 hx hZ e39 Ar40 (j := (6 : Int32)) hin40 (g := (mkF m 98 #[.val (.int z1), .val (.int z2), .val (.int (0 : Int32)), .val (.int (2 : Int32)), .val (.ref ra0), .val (.ref sp2), .unset, .unset, .unset] [(.int (0 : Int32)), (.int (6 : Int32)), (.ref b33), (.ref b33)])) rfl rfl (hb hby at_98)
    have Vs40 : Arv Z h40 b33 k33 .boolean (9 : Int32) [(.int (0 : Int32)), (.int (1 : Int32)), (.int (0 : Int32)), (.int (1 : Int32)), (.int (1 : Int32)), (.int (1 : Int32)), (.int (0 : Int32)), (.int (0 : Int32)), (.int (0 : Int32))] (.int (0 : Int32)) := Arv.set Ar40 q40 S40 M40 H40 G40 (fits_nar_bool _) W40 6 rfl (own_lt rfl)
    refine own_to st40 ?_
    have O40 := O39.wr W40 g_b33
    have N40 := Fr.snoc X40 N39 g_b33
    show own_Ends _ _ _ _ (T40.setTop (mkF m 99 #[.val (.int z1), .val (.int z2), .val (.int 0), .val (.int 2), .val (.ref ra0), .val (.ref sp2), .unset, .unset, .unset] [(.ref b33)]))
    refine own_to (fun _ kont => XS.dup X40.here hx rfl (hb hby at_99) rfl rfl kont) ?_
    show own_Ends _ _ _ _ (T40.setTop (mkF m 100 #[.val (.int z1), .val (.int z2), .val (.int 0), .val (.int 2), .val (.ref ra0), .val (.ref sp2), .unset, .unset, .unset] [(.ref b33), (.ref b33)]))
    refine own_to (fun _ kont => XS.bipush X40.here hx rfl (hb hby at_100) kont) ?_
    show own_Ends _ _ _ _ (T40.setTop (mkF m 102 #[.val (.int z1), .val (.int z2), .val (.int 0), .val (.int 2), .val (.ref ra0), .val (.ref sp2), .unset, .unset, .unset] [(.int 7), (.ref b33), (.ref b33)]))
    refine own_to (fun _ kont => XS.iconst X40.here hx rfl (hb hby at_102) kont) ?_
    show own_Ends _ _ _ _ (T40.setTop (mkF m 103 #[.val (.int z1), .val (.int z2), .val (.int 0), .val (.int 2), .val (.ref ra0), .val (.ref sp2), .unset, .unset, .unset] [(.int 1), (.int 7), (.ref b33), (.ref b33)]))
    obtain ⟨cl41, Ar41, q41, S41, M41, H41, G41⟩ := Vs40
    have hin41 : ¬ ((7 : Int32) < 0 ∨ cl41.slots.size ≤ ((7 : Int32)).toNatClampNeg) := inb_of S41 ⟨by decide, by decide⟩
    obtain ⟨T41, h41, X41, e41, W41, st41⟩ := stZ X40 hx hZ e40 Ar41 (j := (7 : Int32)) hin41 (g := (mkF m 103 #[.val (.int z1), .val (.int z2), .val (.int (0 : Int32)), .val (.int (2 : Int32)), .val (.ref ra0), .val (.ref sp2), .unset, .unset, .unset] [(.int (1 : Int32)), (.int (7 : Int32)), (.ref b33), (.ref b33)])) rfl rfl (hb hby at_103)
    have Vs41 : Arv Z h41 b33 k33 .boolean (9 : Int32) [(.int (0 : Int32)), (.int (1 : Int32)), (.int (0 : Int32)), (.int (1 : Int32)), (.int (1 : Int32)), (.int (1 : Int32)), (.int (0 : Int32)), (.int (1 : Int32)), (.int (0 : Int32))] (.int (0 : Int32)) := Arv.set Ar41 q41 S41 M41 H41 G41 (fits_nar_bool _) W41 7 rfl (own_lt rfl)
    refine own_to st41 ?_
    have O41 := O40.wr W41 g_b33
    have N41 := Fr.snoc X41 N40 g_b33
    show own_Ends _ _ _ _ (T41.setTop (mkF m 104 #[.val (.int z1), .val (.int z2), .val (.int 0), .val (.int 2), .val (.ref ra0), .val (.ref sp2), .unset, .unset, .unset] [(.ref b33)]))
    refine own_to (fun _ kont => XS.dup X41.here hx rfl (hb hby at_104) rfl rfl kont) ?_
    show own_Ends _ _ _ _ (T41.setTop (mkF m 105 #[.val (.int z1), .val (.int z2), .val (.int 0), .val (.int 2), .val (.ref ra0), .val (.ref sp2), .unset, .unset, .unset] [(.ref b33), (.ref b33)]))
    refine own_to (fun _ kont => XS.bipush X41.here hx rfl (hb hby at_105) kont) ?_
    show own_Ends _ _ _ _ (T41.setTop (mkF m 107 #[.val (.int z1), .val (.int z2), .val (.int 0), .val (.int 2), .val (.ref ra0), .val (.ref sp2), .unset, .unset, .unset] [(.int 8), (.ref b33), (.ref b33)]))
    refine own_to (fun _ kont => XS.iconst X41.here hx rfl (hb hby at_107) kont) ?_
    show own_Ends _ _ _ _ (T41.setTop (mkF m 108 #[.val (.int z1), .val (.int z2), .val (.int 0), .val (.int 2), .val (.ref ra0), .val (.ref sp2), .unset, .unset, .unset] [(.int 0), (.int 8), (.ref b33), (.ref b33)]))
    obtain ⟨cl42, Ar42, q42, S42, M42, H42, G42⟩ := Vs41
    have hin42 : ¬ ((8 : Int32) < 0 ∨ cl42.slots.size ≤ ((8 : Int32)).toNatClampNeg) := inb_of S42 ⟨by decide, by decide⟩
    obtain ⟨T42, h42, X42, e42, W42, st42⟩ := stZ X41 hx hZ e41 Ar42 (j := (8 : Int32)) hin42 (g := (mkF m 108 #[.val (.int z1), .val (.int z2), .val (.int (0 : Int32)), .val (.int (2 : Int32)), .val (.ref ra0), .val (.ref sp2), .unset, .unset, .unset] [(.int (0 : Int32)), (.int (8 : Int32)), (.ref b33), (.ref b33)])) rfl rfl (hb hby at_108)
    have Vs42 : Arv Z h42 b33 k33 .boolean (9 : Int32) [(.int (0 : Int32)), (.int (1 : Int32)), (.int (0 : Int32)), (.int (1 : Int32)), (.int (1 : Int32)), (.int (1 : Int32)), (.int (0 : Int32)), (.int (1 : Int32)), (.int (0 : Int32))] (.int (0 : Int32)) := Arv.set Ar42 q42 S42 M42 H42 G42 (fits_nar_bool _) W42 8 rfl (own_lt rfl)
    refine own_to st42 ?_
    have O42 := O41.wr W42 g_b33
    have N42 := Fr.snoc X42 N41 g_b33
    show own_Ends _ _ _ _ (T42.setTop (mkF m 109 #[.val (.int z1), .val (.int z2), .val (.int 0), .val (.int 2), .val (.ref ra0), .val (.ref sp2), .unset, .unset, .unset] [(.ref b33)]))
    refine own_to (fun _ kont => XS.astore X42.here hx rfl (hb hby at_109) rfl rfl (l' := #[.val (.int z1), .val (.int z2), .val (.int (0 : Int32)), .val (.int (2 : Int32)), .val (.ref ra0), .val (.ref sp2), .val (.ref b33), .unset, .unset]) rfl kont) ?_
    show own_Ends _ _ _ _ (T42.setTop (mkF m 111 #[.val (.int z1), .val (.int z2), .val (.int 0), .val (.int 2), .val (.ref ra0), .val (.ref sp2), .val (.ref b33), .unset, .unset] []))
    refine own_to (fun _ kont => XS.aload X42.here hx rfl (hb hby at_111) rfl rfl kont) ?_
    show own_Ends _ _ _ _ (T42.setTop (mkF m 113 #[.val (.int z1), .val (.int z2), .val (.int 0), .val (.int 2), .val (.ref ra0), .val (.ref sp2), .val (.ref b33), .unset, .unset] [(.ref b33)]))
    refine own_to (fun _ kont => XS.iloadN X42.here hx rfl (hb hby at_113) rfl kont) ?_
    show own_Ends _ _ _ _ (T42.setTop (mkF m 114 #[.val (.int z1), .val (.int z2), .val (.int 0), .val (.int 2), .val (.ref ra0), .val (.ref sp2), .val (.ref b33), .unset, .unset] [(.int 0), (.ref b33)]))
    refine own_to (fun _ kont => XS.iconst X42.here hx rfl (hb hby at_114) kont) ?_
    show own_Ends _ _ _ _ (T42.setTop (mkF m 115 #[.val (.int z1), .val (.int z2), .val (.int 0), .val (.int 2), .val (.ref ra0), .val (.ref sp2), .val (.ref b33), .unset, .unset] [(.int 3), (.int 0), (.ref b33)]))
    refine own_to (fun _ kont => XS.imul X42.here hx rfl (hb hby at_115) rfl kont) ?_
    show own_Ends _ _ _ _ (T42.setTop (mkF m 116 #[.val (.int z1), .val (.int z2), .val (.int 0), .val (.int 2), .val (.ref ra0), .val (.ref sp2), .val (.ref b33), .unset, .unset] [(.int 0), (.ref b33)]))
    refine own_to (fun _ kont => XS.iloadN X42.here hx rfl (hb hby at_116) rfl kont) ?_
    show own_Ends _ _ _ _ (T42.setTop (mkF m 117 #[.val (.int z1), .val (.int z2), .val (.int 0), .val (.int 2), .val (.ref ra0), .val (.ref sp2), .val (.ref b33), .unset, .unset] [(.int 2), (.int 0), (.ref b33)]))
    refine own_to (fun _ kont => XS.iadd X42.here hx rfl (hb hby at_117) rfl kont) ?_
    show own_Ends _ _ _ _ (T42.setTop (mkF m 118 #[.val (.int z1), .val (.int z2), .val (.int 0), .val (.int 2), .val (.ref ra0), .val (.ref sp2), .val (.ref b33), .unset, .unset] [(.int 2), (.ref b33)]))
    obtain ⟨cl43, Ar43, q43, S43, M43, H43, G43⟩ := Vs42
    have hin43 : ¬ ((2 : Int32) < 0 ∨ cl43.slots.size ≤ ((2 : Int32)).toNatClampNeg) := inb_of S43 ⟨by decide, by decide⟩
    have hat43 : cl43.slots[((2 : Int32)).toNatClampNeg]? = some (.int (0 : Int32)) := Has.at H43 hin43 rfl
    refine own_to (fun _ kont => X42.baloadBooleans hx (j := (2 : Int32)) (v := (.int (0 : Int32))) (by rw [e42]; exact Ar43.1) (State.isArrayOf_alike hZ.alike Ar43.2.1) Ar43.2.2 hin43 hat43 (g := (mkF m 118 #[.val (.int z1), .val (.int z2), .val (.int (0 : Int32)), .val (.int (2 : Int32)), .val (.ref ra0), .val (.ref sp2), .val (.ref b33), .unset, .unset] [(.int (2 : Int32)), (.ref b33)])) rfl rfl (hb hby at_118) _ kont) ?_
    show own_Ends _ _ _ _ (T42.setTop (mkF m 119 #[.val (.int z1), .val (.int z2), .val (.int 0), .val (.int 2), .val (.ref ra0), .val (.ref sp2), .val (.ref b33), .unset, .unset] [(.int 0)]))
    refine own_to (fun _ kont => XS.ifYes X42.here hx rfl (pc0 := 119) (pc' := 128) rfl (hb hby at_119) rfl ((if0 _ _).trans (teq (by decide)).1) (by decide) (by decide) kont) ?_
    show own_Ends _ _ _ _ (T42.setTop (mkF m 128 #[.val (.int z1), .val (.int z2), .val (.int 0), .val (.int 2), .val (.ref ra0), .val (.ref sp2), .val (.ref b33), .unset, .unset] []))
    obtain ⟨T44, X44, e44, st44⟩ := getS2 X42 hx hZ hown (host := "") (Or.inl (ow8 hw)) Via.refl e42 (S_el0.ext O42.2) (g := (mkF m 128 #[.val (.int z1), .val (.int z2), .val (.int (0 : Int32)), .val (.int (2 : Int32)), .val (.ref ra0), .val (.ref sp2), .val (.ref b33), .unset, .unset] [])) rfl (hb hby at_128)
    refine own_to st44 ?_
    show own_Ends _ _ _ _ (T44.setTop (mkF m 131 #[.val (.int z1), .val (.int z2), .val (.int 0), .val (.int 2), .val (.ref ra0), .val (.ref sp2), .val (.ref b33), .unset, .unset] [(.ref el0)]))
    refine own_to (fun _ kont => XS.astore X44.here hx rfl (hb hby at_131) rfl rfl (l' := #[.val (.int z1), .val (.int z2), .val (.int (0 : Int32)), .val (.int (2 : Int32)), .val (.ref ra0), .val (.ref sp2), .val (.ref b33), .val (.ref el0), .unset]) rfl kont) ?_
    show own_Ends _ _ _ _ (T44.setTop (mkF m 133 #[.val (.int z1), .val (.int z2), .val (.int 0), .val (.int 2), .val (.ref ra0), .val (.ref sp2), .val (.ref b33), .val (.ref el0), .unset] []))
    refine own_to (fun _ kont => XS.aload X44.here hx rfl (hb hby at_133) rfl rfl kont) ?_
    show own_Ends _ _ _ _ (T44.setTop (mkF m 135 #[.val (.int z1), .val (.int z2), .val (.int 0), .val (.int 2), .val (.ref ra0), .val (.ref sp2), .val (.ref b33), .val (.ref el0), .unset] [(.ref ra0)]))
    refine own_to (fun _ kont => XS.aload X44.here hx rfl (hb hby at_135) rfl rfl kont) ?_
    show own_Ends _ _ _ _ (T44.setTop (mkF m 137 #[.val (.int z1), .val (.int z2), .val (.int 0), .val (.int 2), .val (.ref ra0), .val (.ref sp2), .val (.ref b33), .val (.ref el0), .unset] [(.ref sp2), (.ref ra0)]))
    obtain ⟨_, _, ⟨T45, L45, k45, n45⟩, -, X45, ⟨Lc45, hQ45, l45, y45, z45⟩, st45⟩ := Jvm.LawKit.callS X44 hx (y := oM0) hown (mvT hZ (ow11 hw)) (mvT hZ (ow12 hw)) (mvT hZ (ow9 hw)) (mvT hZ (ow13 hw)) (by decide) (backOf (W := 0) (rm1 l Z a0 hw [] ra0 sp2 ra1 sp1 el1 el0 h42 n0 O42 S_ra1 S_sp1 S_el1 S_el0) hZ (ow13 hw) (ow9 hw) (by decide) (by decide)) (g := (mkF m 137 #[.val (.int z1), .val (.int z2), .val (.int (0 : Int32)), .val (.int (2 : Int32)), .val (.ref ra0), .val (.ref sp2), .val (.ref b33), .val (.ref el0), .unset] [(.ref sp2), (.ref ra0)])) rfl (by rw [hml]; rfl) (argsL := [(.ref ra0), (.ref sp2)]) (rest := []) (lenOf pd_0 rfl) rfl (by show 2 * 0 + _ ≤ _; exact Nat.le_of_eq rfl) (hb hby at_137) (fun _ _ => ⟨rfl, e44, (own_le rfl), (own_le rfl)⟩)
    dsimp only [Pt.U, Pt.locs, Pt.cells, Pt.slots] at X45 l45 y45 z45 st45 hQ45
    subst l45 y45 z45
    obtain ⟨hv45, N45q, E45⟩ := hQ45
    rw [own_of3 (Fld.ne F_ra0 F_ra1 (own_intne (by decide))) (Fld.ne F_sp2 F_sp1 (own_intne (by decide)))] at hv45
    subst hv45
    have N45 := Fr.app N42 N45q
    refine own_to st45 ?_
    show own_Ends _ _ _ _ (T45.setTop (mkF m 140 #[.val (.int z1), .val (.int z2), .val (.int 0), .val (.int 2), .val (.ref ra0), .val (.ref sp2), .val (.ref b33), .val (.ref el0), .unset] [(.ref el0)]))
    refine own_to (fun _ kont => XS.astore X45.here hx rfl (hb hby at_140) rfl rfl (l' := #[.val (.int z1), .val (.int z2), .val (.int (0 : Int32)), .val (.int (2 : Int32)), .val (.ref ra0), .val (.ref sp2), .val (.ref b33), .val (.ref el0), .val (.ref el0)]) rfl kont) ?_
    show own_Ends _ _ _ _ (T45.setTop (mkF m 142 #[.val (.int z1), .val (.int z2), .val (.int 0), .val (.int 2), .val (.ref ra0), .val (.ref sp2), .val (.ref b33), .val (.ref el0), .val (.ref el0)] []))
    refine own_to (fun _ kont => XS.aload X45.here hx rfl (hb hby at_142) rfl rfl kont) ?_
    show own_Ends _ _ _ _ (T45.setTop (mkF m 144 #[.val (.int z1), .val (.int z2), .val (.int 0), .val (.int 2), .val (.ref ra0), .val (.ref sp2), .val (.ref b33), .val (.ref el0), .val (.ref el0)] [(.ref el0)]))
    refine own_to (fun _ kont => XS.ifnullNo X45.here hx rfl (hb hby at_144) rfl kont) ?_
    show own_Ends _ _ _ _ (T45.setTop (mkF m 147 #[.val (.int z1), .val (.int z2), .val (.int 0), .val (.int 2), .val (.ref ra0), .val (.ref sp2), .val (.ref b33), .val (.ref el0), .val (.ref el0)] []))
    refine own_to (fun _ kont => XS.aload X45.here hx rfl (hb hby at_147) rfl rfl kont) ?_
    show own_Ends _ _ _ _ (T45.setTop (mkF m 149 #[.val (.int z1), .val (.int z2), .val (.int 0), .val (.int 2), .val (.ref ra0), .val (.ref sp2), .val (.ref b33), .val (.ref el0), .val (.ref el0)] [(.ref el0)]))
    refine own_to (fun _ kont => XS.aload X45.here hx rfl (hb hby at_149) rfl rfl kont) ?_
    show own_Ends _ _ _ _ (T45.setTop (mkF m 151 #[.val (.int z1), .val (.int z2), .val (.int 0), .val (.int 2), .val (.ref ra0), .val (.ref sp2), .val (.ref b33), .val (.ref el0), .val (.ref el0)] [(.ref el0), (.ref el0)]))
    refine own_to (fun _ kont => Jvm.RoadKit.acmp (g := (mkF m 151 #[.val (.int z1), .val (.int z2), .val (.int (0 : Int32)), .val (.int (2 : Int32)), .val (.ref ra0), .val (.ref sp2), .val (.ref b33), .val (.ref el0), .val (.ref el0)] [(.ref el0), (.ref el0)])) X45 hx rfl rfl rfl (pc0 := 151) (pc' := 154) (same := true) rfl (hb hby at_151) rfl (decide_eq_true rfl) (by decide) (by decide) kont) ?_
    show own_Ends _ _ _ _ (T45.setTop (mkF m 154 #[.val (.int z1), .val (.int z2), .val (.int 0), .val (.int 2), .val (.ref ra0), .val (.ref sp2), .val (.ref b33), .val (.ref el0), .val (.ref el0)] []))
    refine own_to (fun _ kont => XS.iconst X45.here hx rfl (hb hby at_154) kont) ?_
    show own_Ends _ _ _ _ (T45.setTop (mkF m 155 #[.val (.int z1), .val (.int z2), .val (.int 0), .val (.int 2), .val (.ref ra0), .val (.ref sp2), .val (.ref b33), .val (.ref el0), .val (.ref el0)] [(.int 1)]))
    refine own_to (fun _ kont => XS.goto X45.here hx rfl (pc0 := 155) (pc' := 159) rfl (hb hby at_155) (by decide) (by decide) kont) ?_
    show own_Ends _ _ _ _ (T45.setTop (mkF m 159 #[.val (.int z1), .val (.int z2), .val (.int 0), .val (.int 2), .val (.ref ra0), .val (.ref sp2), .val (.ref b33), .val (.ref el0), .val (.ref el0)] [(.int 1)]))
    refine own_leave X45 (v := some (.int (1 : Int32))) (fun h => by rw [Bd.returns] at h; cases h) ?_ (by decide) (by decide) (fun fs hr => retN X45 hx (t := .boolean) Bd.returns (by simp) (hb hby at_159) hr)
    show Q_rm0 Z z1 z2 ra0 sp0 ra1 sp1 ra2 sp2 el0 el1 h0 n0 _ T45.heap _
    rw [E45]
    exact ⟨rfl, N45⟩
  · skip
    show own_Ends _ _ _ _ (s₁.setTop (mkF m 14 #[.val (.int z1), .val (.int z2), .val (.int 1), .val (.int 0), .unset, .unset, .unset, .unset, .unset] []))
    refine own_to (fun _ kont => XS.iloadN X0.here hx rfl (hb hby at_14) rfl kont) ?_
    show own_Ends _ _ _ _ (s₁.setTop (mkF m 15 #[.val (.int z1), .val (.int z2), .val (.int 1), .val (.int 0), .unset, .unset, .unset, .unset, .unset] [(.int 1)]))
    refine own_to (fun _ kont => XS.ifYes X0.here hx rfl (pc0 := 15) (pc' := 24) rfl (hb hby at_15) rfl ((if0 _ _).trans (feq (by decide)).2) (by decide) (by decide) kont) ?_
    show own_Ends _ _ _ _ (s₁.setTop (mkF m 24 #[.val (.int z1), .val (.int z2), .val (.int 1), .val (.int 0), .unset, .unset, .unset, .unset, .unset] []))
    refine own_to (fun _ kont => XS.iloadN X0.here hx rfl (hb hby at_24) rfl kont) ?_
    show own_Ends _ _ _ _ (s₁.setTop (mkF m 25 #[.val (.int z1), .val (.int z2), .val (.int 1), .val (.int 0), .unset, .unset, .unset, .unset, .unset] [(.int 1)]))
    refine own_to (fun _ kont => XS.iconst X0.here hx rfl (hb hby at_25) kont) ?_
    show own_Ends _ _ _ _ (s₁.setTop (mkF m 26 #[.val (.int z1), .val (.int z2), .val (.int 1), .val (.int 0), .unset, .unset, .unset, .unset, .unset] [(.int 1), (.int 1)]))
    refine own_to (fun _ kont => XS.icmpNo X0.here hx rfl (hb hby at_26) rfl (teq (by decide)).2 kont) ?_
    show own_Ends _ _ _ _ (s₁.setTop (mkF m 29 #[.val (.int z1), .val (.int z2), .val (.int 1), .val (.int 0), .unset, .unset, .unset, .unset, .unset] []))
    obtain ⟨T46, X46, e46, st46⟩ := getS2 X0 hx hZ hown (host := "") (Or.inl (ow27 hw)) Via.refl e0 (S_ra1.ext O0.2) (g := (mkF m 29 #[.val (.int z1), .val (.int z2), .val (.int (1 : Int32)), .val (.int (0 : Int32)), .unset, .unset, .unset, .unset, .unset] [])) rfl (hb hby at_29)
    refine own_to st46 ?_
    show own_Ends _ _ _ _ (T46.setTop (mkF m 32 #[.val (.int z1), .val (.int z2), .val (.int 1), .val (.int 0), .unset, .unset, .unset, .unset, .unset] [(.ref ra1)]))
    refine own_to (fun _ kont => XS.goto X46.here hx rfl (pc0 := 32) (pc' := 38) rfl (hb hby at_32) (by decide) (by decide) kont) ?_
    show own_Ends _ _ _ _ (T46.setTop (mkF m 38 #[.val (.int z1), .val (.int z2), .val (.int 1), .val (.int 0), .unset, .unset, .unset, .unset, .unset] [(.ref ra1)]))
    refine own_to (fun _ kont => XS.astore X46.here hx rfl (hb hby at_38) rfl rfl (l' := #[.val (.int z1), .val (.int z2), .val (.int (1 : Int32)), .val (.int (0 : Int32)), .val (.ref ra1), .unset, .unset, .unset, .unset]) rfl kont) ?_
    show own_Ends _ _ _ _ (T46.setTop (mkF m 40 #[.val (.int z1), .val (.int z2), .val (.int 1), .val (.int 0), .val (.ref ra1), .unset, .unset, .unset, .unset] []))
    refine own_to (fun _ kont => XS.iloadN X46.here hx rfl (hb hby at_40) rfl kont) ?_
    show own_Ends _ _ _ _ (T46.setTop (mkF m 41 #[.val (.int z1), .val (.int z2), .val (.int 1), .val (.int 0), .val (.ref ra1), .unset, .unset, .unset, .unset] [(.int 0)]))
    refine own_to (fun _ kont => XS.ifNo X46.here hx rfl (hb hby at_41) rfl ((if0 _ _).trans (teq (by decide)).2) kont) ?_
    show own_Ends _ _ _ _ (T46.setTop (mkF m 44 #[.val (.int z1), .val (.int z2), .val (.int 1), .val (.int 0), .val (.ref ra1), .unset, .unset, .unset, .unset] []))
    obtain ⟨T47, X47, e47, st47⟩ := getS2 X46 hx hZ hown (host := "") (Or.inl (ow4 hw)) Via.refl e46 (S_sp0.ext O0.2) (g := (mkF m 44 #[.val (.int z1), .val (.int z2), .val (.int (1 : Int32)), .val (.int (0 : Int32)), .val (.ref ra1), .unset, .unset, .unset, .unset] [])) rfl (hb hby at_44)
    refine own_to st47 ?_
    show own_Ends _ _ _ _ (T47.setTop (mkF m 47 #[.val (.int z1), .val (.int z2), .val (.int 1), .val (.int 0), .val (.ref ra1), .unset, .unset, .unset, .unset] [(.ref sp0)]))
    refine own_to (fun _ kont => XS.goto X47.here hx rfl (pc0 := 47) (pc' := 64) rfl (hb hby at_47) (by decide) (by decide) kont) ?_
    show own_Ends _ _ _ _ (T47.setTop (mkF m 64 #[.val (.int z1), .val (.int z2), .val (.int 1), .val (.int 0), .val (.ref ra1), .unset, .unset, .unset, .unset] [(.ref sp0)]))
    refine own_to (fun _ kont => XS.astore X47.here hx rfl (hb hby at_64) rfl rfl (l' := #[.val (.int z1), .val (.int z2), .val (.int (1 : Int32)), .val (.int (0 : Int32)), .val (.ref ra1), .val (.ref sp0), .unset, .unset, .unset]) rfl kont) ?_
    show own_Ends _ _ _ _ (T47.setTop (mkF m 66 #[.val (.int z1), .val (.int z2), .val (.int 1), .val (.int 0), .val (.ref ra1), .val (.ref sp0), .unset, .unset, .unset] []))
    refine own_to (fun _ kont => XS.bipush X47.here hx rfl (hb hby at_66) kont) ?_
    show own_Ends _ _ _ _ (T47.setTop (mkF m 68 #[.val (.int z1), .val (.int z2), .val (.int 1), .val (.int 0), .val (.ref ra1), .val (.ref sp0), .unset, .unset, .unset] [(.int 9)]))
    obtain ⟨T48, h48, k48, X48, e48, E48, A48, st48⟩ := newP X47 hx hZ (aty := .boolean) (ow7 hw) e47 (g := (mkF m 68 #[.val (.int z1), .val (.int z2), .val (.int (1 : Int32)), .val (.int (0 : Int32)), .val (.ref ra1), .val (.ref sp0), .unset, .unset, .unset] [(.int (9 : Int32))])) rfl (hb hby at_68) rfl (by decide) (cap := 9) (by decide) (by decide) (by decide) (by decide)
    obtain ⟨b48, g48⟩ : ∃ z, z = h0.size := ⟨_, rfl⟩
    rw [← g48] at A48 st48
    have g_b48 : n0 ≤ b48 := Nat.le_trans (own_old_le O0) (Nat.le_of_eq g48.symm)
    refine own_to st48 ?_
    have O48 := O0.ext E48
    have Vn48 : Arv Z h48 b48 k48 .boolean (9 : Int32) [(.int (0 : Int32)), (.int (0 : Int32)), (.int (0 : Int32)), (.int (0 : Int32)), (.int (0 : Int32)), (.int (0 : Int32)), (.int (0 : Int32)), (.int (0 : Int32)), (.int (0 : Int32))] (.int (0 : Int32)) := (Arv.new A48 (by decide)).pad (pad_rep [] (.int (0 : Int32)) 9)
    show own_Ends _ _ _ _ (T48.setTop (mkF m 70 #[.val (.int z1), .val (.int z2), .val (.int 1), .val (.int 0), .val (.ref ra1), .val (.ref sp0), .unset, .unset, .unset] [(.ref b48)]))
    refine own_to (fun _ kont => XS.dup X48.here hx rfl (hb hby at_70) rfl rfl kont) ?_
    show own_Ends _ _ _ _ (T48.setTop (mkF m 71 #[.val (.int z1), .val (.int z2), .val (.int 1), .val (.int 0), .val (.ref ra1), .val (.ref sp0), .unset, .unset, .unset] [(.ref b48), (.ref b48)]))
    refine own_to (fun _ kont => XS.iconst X48.here hx rfl (hb hby at_71) kont) ?_
    show own_Ends _ _ _ _ (T48.setTop (mkF m 72 #[.val (.int z1), .val (.int z2), .val (.int 1), .val (.int 0), .val (.ref ra1), .val (.ref sp0), .unset, .unset, .unset] [(.int 0), (.ref b48), (.ref b48)]))
    refine own_to (fun _ kont => XS.iconst X48.here hx rfl (hb hby at_72) kont) ?_
    show own_Ends _ _ _ _ (T48.setTop (mkF m 73 #[.val (.int z1), .val (.int z2), .val (.int 1), .val (.int 0), .val (.ref ra1), .val (.ref sp0), .unset, .unset, .unset] [(.int 0), (.int 0), (.ref b48), (.ref b48)]))
    obtain ⟨cl49, Ar49, q49, S49, M49, H49, G49⟩ := Vn48
    have hin49 : ¬ ((0 : Int32) < 0 ∨ cl49.slots.size ≤ ((0 : Int32)).toNatClampNeg) := inb_of S49 ⟨by decide, by decide⟩
    obtain ⟨T49, h49, X49, e49, W49, st49⟩ := stZ X48 hx hZ e48 Ar49 (j := (0 : Int32)) hin49 (g := (mkF m 73 #[.val (.int z1), .val (.int z2), .val (.int (1 : Int32)), .val (.int (0 : Int32)), .val (.ref ra1), .val (.ref sp0), .unset, .unset, .unset] [(.int (0 : Int32)), (.int (0 : Int32)), (.ref b48), (.ref b48)])) rfl rfl (hb hby at_73)
    have Vs49 : Arv Z h49 b48 k48 .boolean (9 : Int32) [(.int (0 : Int32)), (.int (0 : Int32)), (.int (0 : Int32)), (.int (0 : Int32)), (.int (0 : Int32)), (.int (0 : Int32)), (.int (0 : Int32)), (.int (0 : Int32)), (.int (0 : Int32))] (.int (0 : Int32)) := Arv.set Ar49 q49 S49 M49 H49 G49 (fits_nar_bool _) W49 0 rfl (own_lt rfl)
    refine own_to st49 ?_
    have O49 := O48.wr W49 g_b48
    have N49 := Fr.snoc X49 N0 g_b48
    show own_Ends _ _ _ _ (T49.setTop (mkF m 74 #[.val (.int z1), .val (.int z2), .val (.int 1), .val (.int 0), .val (.ref ra1), .val (.ref sp0), .unset, .unset, .unset] [(.ref b48)]))
    refine own_to (fun _ kont => XS.dup X49.here hx rfl (hb hby at_74) rfl rfl kont) ?_
    show own_Ends _ _ _ _ (T49.setTop (mkF m 75 #[.val (.int z1), .val (.int z2), .val (.int 1), .val (.int 0), .val (.ref ra1), .val (.ref sp0), .unset, .unset, .unset] [(.ref b48), (.ref b48)]))
    refine own_to (fun _ kont => XS.iconst X49.here hx rfl (hb hby at_75) kont) ?_
    show own_Ends _ _ _ _ (T49.setTop (mkF m 76 #[.val (.int z1), .val (.int z2), .val (.int 1), .val (.int 0), .val (.ref ra1), .val (.ref sp0), .unset, .unset, .unset] [(.int 1), (.ref b48), (.ref b48)]))
    refine own_to (fun _ kont => XS.iconst X49.here hx rfl (hb hby at_76) kont) ?_
    show own_Ends _ _ _ _ (T49.setTop (mkF m 77 #[.val (.int z1), .val (.int z2), .val (.int 1), .val (.int 0), .val (.ref ra1), .val (.ref sp0), .unset, .unset, .unset] [(.int 1), (.int 1), (.ref b48), (.ref b48)]))
    obtain ⟨cl50, Ar50, q50, S50, M50, H50, G50⟩ := Vs49
    have hin50 : ¬ ((1 : Int32) < 0 ∨ cl50.slots.size ≤ ((1 : Int32)).toNatClampNeg) := inb_of S50 ⟨by decide, by decide⟩
    obtain ⟨T50, h50, X50, e50, W50, st50⟩ := stZ X49 hx hZ e49 Ar50 (j := (1 : Int32)) hin50 (g := (mkF m 77 #[.val (.int z1), .val (.int z2), .val (.int (1 : Int32)), .val (.int (0 : Int32)), .val (.ref ra1), .val (.ref sp0), .unset, .unset, .unset] [(.int (1 : Int32)), (.int (1 : Int32)), (.ref b48), (.ref b48)])) rfl rfl (hb hby at_77)
    have Vs50 : Arv Z h50 b48 k48 .boolean (9 : Int32) [(.int (0 : Int32)), (.int (1 : Int32)), (.int (0 : Int32)), (.int (0 : Int32)), (.int (0 : Int32)), (.int (0 : Int32)), (.int (0 : Int32)), (.int (0 : Int32)), (.int (0 : Int32))] (.int (0 : Int32)) := Arv.set Ar50 q50 S50 M50 H50 G50 (fits_nar_bool _) W50 1 rfl (own_lt rfl)
    refine own_to st50 ?_
    have O50 := O49.wr W50 g_b48
    have N50 := Fr.snoc X50 N49 g_b48
    show own_Ends _ _ _ _ (T50.setTop (mkF m 78 #[.val (.int z1), .val (.int z2), .val (.int 1), .val (.int 0), .val (.ref ra1), .val (.ref sp0), .unset, .unset, .unset] [(.ref b48)]))
    refine own_to (fun _ kont => XS.dup X50.here hx rfl (hb hby at_78) rfl rfl kont) ?_
    show own_Ends _ _ _ _ (T50.setTop (mkF m 79 #[.val (.int z1), .val (.int z2), .val (.int 1), .val (.int 0), .val (.ref ra1), .val (.ref sp0), .unset, .unset, .unset] [(.ref b48), (.ref b48)]))
    refine own_to (fun _ kont => XS.iconst X50.here hx rfl (hb hby at_79) kont) ?_
    show own_Ends _ _ _ _ (T50.setTop (mkF m 80 #[.val (.int z1), .val (.int z2), .val (.int 1), .val (.int 0), .val (.ref ra1), .val (.ref sp0), .unset, .unset, .unset] [(.int 2), (.ref b48), (.ref b48)]))
    refine own_to (fun _ kont => XS.iconst X50.here hx rfl (hb hby at_80) kont) ?_
    show own_Ends _ _ _ _ (T50.setTop (mkF m 81 #[.val (.int z1), .val (.int z2), .val (.int 1), .val (.int 0), .val (.ref ra1), .val (.ref sp0), .unset, .unset, .unset] [(.int 0), (.int 2), (.ref b48), (.ref b48)]))
    obtain ⟨cl51, Ar51, q51, S51, M51, H51, G51⟩ := Vs50
    have hin51 : ¬ ((2 : Int32) < 0 ∨ cl51.slots.size ≤ ((2 : Int32)).toNatClampNeg) := inb_of S51 ⟨by decide, by decide⟩
    obtain ⟨T51, h51, X51, e51, W51, st51⟩ := stZ X50 hx hZ e50 Ar51 (j := (2 : Int32)) hin51 (g := (mkF m 81 #[.val (.int z1), .val (.int z2), .val (.int (1 : Int32)), .val (.int (0 : Int32)), .val (.ref ra1), .val (.ref sp0), .unset, .unset, .unset] [(.int (0 : Int32)), (.int (2 : Int32)), (.ref b48), (.ref b48)])) rfl rfl (hb hby at_81)
    have Vs51 : Arv Z h51 b48 k48 .boolean (9 : Int32) [(.int (0 : Int32)), (.int (1 : Int32)), (.int (0 : Int32)), (.int (0 : Int32)), (.int (0 : Int32)), (.int (0 : Int32)), (.int (0 : Int32)), (.int (0 : Int32)), (.int (0 : Int32))] (.int (0 : Int32)) := Arv.set Ar51 q51 S51 M51 H51 G51 (fits_nar_bool _) W51 2 rfl (own_lt rfl)
    refine own_to st51 ?_
    have O51 := O50.wr W51 g_b48
    have N51 := Fr.snoc X51 N50 g_b48
    show own_Ends _ _ _ _ (T51.setTop (mkF m 82 #[.val (.int z1), .val (.int z2), .val (.int 1), .val (.int 0), .val (.ref ra1), .val (.ref sp0), .unset, .unset, .unset] [(.ref b48)]))
    refine own_to (fun _ kont => XS.dup X51.here hx rfl (hb hby at_82) rfl rfl kont) ?_
    show own_Ends _ _ _ _ (T51.setTop (mkF m 83 #[.val (.int z1), .val (.int z2), .val (.int 1), .val (.int 0), .val (.ref ra1), .val (.ref sp0), .unset, .unset, .unset] [(.ref b48), (.ref b48)]))
    refine own_to (fun _ kont => XS.iconst X51.here hx rfl (hb hby at_83) kont) ?_
    show own_Ends _ _ _ _ (T51.setTop (mkF m 84 #[.val (.int z1), .val (.int z2), .val (.int 1), .val (.int 0), .val (.ref ra1), .val (.ref sp0), .unset, .unset, .unset] [(.int 3), (.ref b48), (.ref b48)]))
    refine own_to (fun _ kont => XS.iconst X51.here hx rfl (hb hby at_84) kont) ?_
    show own_Ends _ _ _ _ (T51.setTop (mkF m 85 #[.val (.int z1), .val (.int z2), .val (.int 1), .val (.int 0), .val (.ref ra1), .val (.ref sp0), .unset, .unset, .unset] [(.int 1), (.int 3), (.ref b48), (.ref b48)]))
    obtain ⟨cl52, Ar52, q52, S52, M52, H52, G52⟩ := Vs51
    have hin52 : ¬ ((3 : Int32) < 0 ∨ cl52.slots.size ≤ ((3 : Int32)).toNatClampNeg) := inb_of S52 ⟨by decide, by decide⟩
    obtain ⟨T52, h52, X52, e52, W52, st52⟩ := stZ X51 hx hZ e51 Ar52 (j := (3 : Int32)) hin52 (g := (mkF m 85 #[.val (.int z1), .val (.int z2), .val (.int (1 : Int32)), .val (.int (0 : Int32)), .val (.ref ra1), .val (.ref sp0), .unset, .unset, .unset] [(.int (1 : Int32)), (.int (3 : Int32)), (.ref b48), (.ref b48)])) rfl rfl (hb hby at_85)
    have Vs52 : Arv Z h52 b48 k48 .boolean (9 : Int32) [(.int (0 : Int32)), (.int (1 : Int32)), (.int (0 : Int32)), (.int (1 : Int32)), (.int (0 : Int32)), (.int (0 : Int32)), (.int (0 : Int32)), (.int (0 : Int32)), (.int (0 : Int32))] (.int (0 : Int32)) := Arv.set Ar52 q52 S52 M52 H52 G52 (fits_nar_bool _) W52 3 rfl (own_lt rfl)
    refine own_to st52 ?_
    have O52 := O51.wr W52 g_b48
    have N52 := Fr.snoc X52 N51 g_b48
    show own_Ends _ _ _ _ (T52.setTop (mkF m 86 #[.val (.int z1), .val (.int z2), .val (.int 1), .val (.int 0), .val (.ref ra1), .val (.ref sp0), .unset, .unset, .unset] [(.ref b48)]))
    refine own_to (fun _ kont => XS.dup X52.here hx rfl (hb hby at_86) rfl rfl kont) ?_
    show own_Ends _ _ _ _ (T52.setTop (mkF m 87 #[.val (.int z1), .val (.int z2), .val (.int 1), .val (.int 0), .val (.ref ra1), .val (.ref sp0), .unset, .unset, .unset] [(.ref b48), (.ref b48)]))
    refine own_to (fun _ kont => XS.iconst X52.here hx rfl (hb hby at_87) kont) ?_
    show own_Ends _ _ _ _ (T52.setTop (mkF m 88 #[.val (.int z1), .val (.int z2), .val (.int 1), .val (.int 0), .val (.ref ra1), .val (.ref sp0), .unset, .unset, .unset] [(.int 4), (.ref b48), (.ref b48)]))
    refine own_to (fun _ kont => XS.iconst X52.here hx rfl (hb hby at_88) kont) ?_
    show own_Ends _ _ _ _ (T52.setTop (mkF m 89 #[.val (.int z1), .val (.int z2), .val (.int 1), .val (.int 0), .val (.ref ra1), .val (.ref sp0), .unset, .unset, .unset] [(.int 1), (.int 4), (.ref b48), (.ref b48)]))
    obtain ⟨cl53, Ar53, q53, S53, M53, H53, G53⟩ := Vs52
    have hin53 : ¬ ((4 : Int32) < 0 ∨ cl53.slots.size ≤ ((4 : Int32)).toNatClampNeg) := inb_of S53 ⟨by decide, by decide⟩
    obtain ⟨T53, h53, X53, e53, W53, st53⟩ := stZ X52 hx hZ e52 Ar53 (j := (4 : Int32)) hin53 (g := (mkF m 89 #[.val (.int z1), .val (.int z2), .val (.int (1 : Int32)), .val (.int (0 : Int32)), .val (.ref ra1), .val (.ref sp0), .unset, .unset, .unset] [(.int (1 : Int32)), (.int (4 : Int32)), (.ref b48), (.ref b48)])) rfl rfl (hb hby at_89)
    have Vs53 : Arv Z h53 b48 k48 .boolean (9 : Int32) [(.int (0 : Int32)), (.int (1 : Int32)), (.int (0 : Int32)), (.int (1 : Int32)), (.int (1 : Int32)), (.int (0 : Int32)), (.int (0 : Int32)), (.int (0 : Int32)), (.int (0 : Int32))] (.int (0 : Int32)) := Arv.set Ar53 q53 S53 M53 H53 G53 (fits_nar_bool _) W53 4 rfl (own_lt rfl)
    refine own_to st53 ?_
    have O53 := O52.wr W53 g_b48
    have N53 := Fr.snoc X53 N52 g_b48
    show own_Ends _ _ _ _ (T53.setTop (mkF m 90 #[.val (.int z1), .val (.int z2), .val (.int 1), .val (.int 0), .val (.ref ra1), .val (.ref sp0), .unset, .unset, .unset] [(.ref b48)]))
    refine own_to (fun _ kont => XS.dup X53.here hx rfl (hb hby at_90) rfl rfl kont) ?_
    show own_Ends _ _ _ _ (T53.setTop (mkF m 91 #[.val (.int z1), .val (.int z2), .val (.int 1), .val (.int 0), .val (.ref ra1), .val (.ref sp0), .unset, .unset, .unset] [(.ref b48), (.ref b48)]))
    refine own_to (fun _ kont => XS.iconst X53.here hx rfl (hb hby at_91) kont) ?_
    show own_Ends _ _ _ _ (T53.setTop (mkF m 92 #[.val (.int z1), .val (.int z2), .val (.int 1), .val (.int 0), .val (.ref ra1), .val (.ref sp0), .unset, .unset, .unset] [(.int 5), (.ref b48), (.ref b48)]))
    refine own_to (fun _ kont => XS.iconst X53.here hx rfl (hb hby at_92) kont) ?_
    show own_Ends _ _ _ _ (T53.setTop (mkF m 93 #[.val (.int z1), .val (.int z2), .val (.int 1), .val (.int 0), .val (.ref ra1), .val (.ref sp0), .unset, .unset, .unset] [(.int 1), (.int 5), (.ref b48), (.ref b48)]))
    obtain ⟨cl54, Ar54, q54, S54, M54, H54, G54⟩ := Vs53
    have hin54 : ¬ ((5 : Int32) < 0 ∨ cl54.slots.size ≤ ((5 : Int32)).toNatClampNeg) := inb_of S54 ⟨by decide, by decide⟩
    obtain ⟨T54, h54, X54, e54, W54, st54⟩ := stZ X53 hx hZ e53 Ar54 (j := (5 : Int32)) hin54 (g := (mkF m 93 #[.val (.int z1), .val (.int z2), .val (.int (1 : Int32)), .val (.int (0 : Int32)), .val (.ref ra1), .val (.ref sp0), .unset, .unset, .unset] [(.int (1 : Int32)), (.int (5 : Int32)), (.ref b48), (.ref b48)])) rfl rfl (hb hby at_93)
    have Vs54 : Arv Z h54 b48 k48 .boolean (9 : Int32) [(.int (0 : Int32)), (.int (1 : Int32)), (.int (0 : Int32)), (.int (1 : Int32)), (.int (1 : Int32)), (.int (1 : Int32)), (.int (0 : Int32)), (.int (0 : Int32)), (.int (0 : Int32))] (.int (0 : Int32)) := Arv.set Ar54 q54 S54 M54 H54 G54 (fits_nar_bool _) W54 5 rfl (own_lt rfl)
    refine own_to st54 ?_
    have O54 := O53.wr W54 g_b48
    have N54 := Fr.snoc X54 N53 g_b48
    show own_Ends _ _ _ _ (T54.setTop (mkF m 94 #[.val (.int z1), .val (.int z2), .val (.int 1), .val (.int 0), .val (.ref ra1), .val (.ref sp0), .unset, .unset, .unset] [(.ref b48)]))
    refine own_to (fun _ kont => XS.dup X54.here hx rfl (hb hby at_94) rfl rfl kont) ?_
    show own_Ends _ _ _ _ (T54.setTop (mkF m 95 #[.val (.int z1), .val (.int z2), .val (.int 1), .val (.int 0), .val (.ref ra1), .val (.ref sp0), .unset, .unset, .unset] [(.ref b48), (.ref b48)]))
    refine own_to (fun _ kont => XS.bipush X54.here hx rfl (hb hby at_95) kont) ?_
    show own_Ends _ _ _ _ (T54.setTop (mkF m 97 #[.val (.int z1), .val (.int z2), .val (.int 1), .val (.int 0), .val (.ref ra1), .val (.ref sp0), .unset, .unset, .unset] [(.int 6), (.ref b48), (.ref b48)]))
    refine own_to (fun _ kont => XS.iconst X54.here hx rfl (hb hby at_97) kont) ?_
    show own_Ends _ _ _ _ (T54.setTop (mkF m 98 #[.val (.int z1), .val (.int z2), .val (.int 1), .val (.int 0), .val (.ref ra1), .val (.ref sp0), .unset, .unset, .unset] [(.int 0), (.int 6), (.ref b48), (.ref b48)]))
    obtain ⟨cl55, Ar55, q55, S55, M55, H55, G55⟩ := Vs54
    have hin55 : ¬ ((6 : Int32) < 0 ∨ cl55.slots.size ≤ ((6 : Int32)).toNatClampNeg) := inb_of S55 ⟨by decide, by decide⟩
    obtain ⟨T55, h55, X55, e55, W55, st55⟩ := stZ X54 hx hZ e54 Ar55 (j := (6 : Int32)) hin55 (g := (mkF m 98 #[.val (.int z1), .val (.int z2), .val (.int (1 : Int32)), .val (.int (0 : Int32)), .val (.ref ra1), .val (.ref sp0), .unset, .unset, .unset] [(.int (0 : Int32)), (.int (6 : Int32)), (.ref b48), (.ref b48)])) rfl rfl (hb hby at_98)
    have Vs55 : Arv Z h55 b48 k48 .boolean (9 : Int32) [(.int (0 : Int32)), (.int (1 : Int32)), (.int (0 : Int32)), (.int (1 : Int32)), (.int (1 : Int32)), (.int (1 : Int32)), (.int (0 : Int32)), (.int (0 : Int32)), (.int (0 : Int32))] (.int (0 : Int32)) := Arv.set Ar55 q55 S55 M55 H55 G55 (fits_nar_bool _) W55 6 rfl (own_lt rfl)
    refine own_to st55 ?_
    have O55 := O54.wr W55 g_b48
    have N55 := Fr.snoc X55 N54 g_b48
    show own_Ends _ _ _ _ (T55.setTop (mkF m 99 #[.val (.int z1), .val (.int z2), .val (.int 1), .val (.int 0), .val (.ref ra1), .val (.ref sp0), .unset, .unset, .unset] [(.ref b48)]))
    refine own_to (fun _ kont => XS.dup X55.here hx rfl (hb hby at_99) rfl rfl kont) ?_
    show own_Ends _ _ _ _ (T55.setTop (mkF m 100 #[.val (.int z1), .val (.int z2), .val (.int 1), .val (.int 0), .val (.ref ra1), .val (.ref sp0), .unset, .unset, .unset] [(.ref b48), (.ref b48)]))
    refine own_to (fun _ kont => XS.bipush X55.here hx rfl (hb hby at_100) kont) ?_
    show own_Ends _ _ _ _ (T55.setTop (mkF m 102 #[.val (.int z1), .val (.int z2), .val (.int 1), .val (.int 0), .val (.ref ra1), .val (.ref sp0), .unset, .unset, .unset] [(.int 7), (.ref b48), (.ref b48)]))
    refine own_to (fun _ kont => XS.iconst X55.here hx rfl (hb hby at_102) kont) ?_
    show own_Ends _ _ _ _ (T55.setTop (mkF m 103 #[.val (.int z1), .val (.int z2), .val (.int 1), .val (.int 0), .val (.ref ra1), .val (.ref sp0), .unset, .unset, .unset] [(.int 1), (.int 7), (.ref b48), (.ref b48)]))
    obtain ⟨cl56, Ar56, q56, S56, M56, H56, G56⟩ := Vs55
    have hin56 : ¬ ((7 : Int32) < 0 ∨ cl56.slots.size ≤ ((7 : Int32)).toNatClampNeg) := inb_of S56 ⟨by decide, by decide⟩
    obtain ⟨T56, h56, X56, e56, W56, st56⟩ := stZ X55 hx hZ e55 Ar56 (j := (7 : Int32)) hin56 (g := (mkF m 103 #[.val (.int z1), .val (.int z2), .val (.int (1 : Int32)), .val (.int (0 : Int32)), .val (.ref ra1), .val (.ref sp0), .unset, .unset, .unset] [(.int (1 : Int32)), (.int (7 : Int32)), (.ref b48), (.ref b48)])) rfl rfl (hb hby at_103)
    have Vs56 : Arv Z h56 b48 k48 .boolean (9 : Int32) [(.int (0 : Int32)), (.int (1 : Int32)), (.int (0 : Int32)), (.int (1 : Int32)), (.int (1 : Int32)), (.int (1 : Int32)), (.int (0 : Int32)), (.int (1 : Int32)), (.int (0 : Int32))] (.int (0 : Int32)) := Arv.set Ar56 q56 S56 M56 H56 G56 (fits_nar_bool _) W56 7 rfl (own_lt rfl)
    refine own_to st56 ?_
    have O56 := O55.wr W56 g_b48
    have N56 := Fr.snoc X56 N55 g_b48
    show own_Ends _ _ _ _ (T56.setTop (mkF m 104 #[.val (.int z1), .val (.int z2), .val (.int 1), .val (.int 0), .val (.ref ra1), .val (.ref sp0), .unset, .unset, .unset] [(.ref b48)]))
    refine own_to (fun _ kont => XS.dup X56.here hx rfl (hb hby at_104) rfl rfl kont) ?_
    show own_Ends _ _ _ _ (T56.setTop (mkF m 105 #[.val (.int z1), .val (.int z2), .val (.int 1), .val (.int 0), .val (.ref ra1), .val (.ref sp0), .unset, .unset, .unset] [(.ref b48), (.ref b48)]))
    refine own_to (fun _ kont => XS.bipush X56.here hx rfl (hb hby at_105) kont) ?_
    show own_Ends _ _ _ _ (T56.setTop (mkF m 107 #[.val (.int z1), .val (.int z2), .val (.int 1), .val (.int 0), .val (.ref ra1), .val (.ref sp0), .unset, .unset, .unset] [(.int 8), (.ref b48), (.ref b48)]))
    refine own_to (fun _ kont => XS.iconst X56.here hx rfl (hb hby at_107) kont) ?_
    show own_Ends _ _ _ _ (T56.setTop (mkF m 108 #[.val (.int z1), .val (.int z2), .val (.int 1), .val (.int 0), .val (.ref ra1), .val (.ref sp0), .unset, .unset, .unset] [(.int 0), (.int 8), (.ref b48), (.ref b48)]))
    obtain ⟨cl57, Ar57, q57, S57, M57, H57, G57⟩ := Vs56
    have hin57 : ¬ ((8 : Int32) < 0 ∨ cl57.slots.size ≤ ((8 : Int32)).toNatClampNeg) := inb_of S57 ⟨by decide, by decide⟩
    obtain ⟨T57, h57, X57, e57, W57, st57⟩ := stZ X56 hx hZ e56 Ar57 (j := (8 : Int32)) hin57 (g := (mkF m 108 #[.val (.int z1), .val (.int z2), .val (.int (1 : Int32)), .val (.int (0 : Int32)), .val (.ref ra1), .val (.ref sp0), .unset, .unset, .unset] [(.int (0 : Int32)), (.int (8 : Int32)), (.ref b48), (.ref b48)])) rfl rfl (hb hby at_108)
    have Vs57 : Arv Z h57 b48 k48 .boolean (9 : Int32) [(.int (0 : Int32)), (.int (1 : Int32)), (.int (0 : Int32)), (.int (1 : Int32)), (.int (1 : Int32)), (.int (1 : Int32)), (.int (0 : Int32)), (.int (1 : Int32)), (.int (0 : Int32))] (.int (0 : Int32)) := Arv.set Ar57 q57 S57 M57 H57 G57 (fits_nar_bool _) W57 8 rfl (own_lt rfl)
    refine own_to st57 ?_
    have O57 := O56.wr W57 g_b48
    have N57 := Fr.snoc X57 N56 g_b48
    show own_Ends _ _ _ _ (T57.setTop (mkF m 109 #[.val (.int z1), .val (.int z2), .val (.int 1), .val (.int 0), .val (.ref ra1), .val (.ref sp0), .unset, .unset, .unset] [(.ref b48)]))
    refine own_to (fun _ kont => XS.astore X57.here hx rfl (hb hby at_109) rfl rfl (l' := #[.val (.int z1), .val (.int z2), .val (.int (1 : Int32)), .val (.int (0 : Int32)), .val (.ref ra1), .val (.ref sp0), .val (.ref b48), .unset, .unset]) rfl kont) ?_
    show own_Ends _ _ _ _ (T57.setTop (mkF m 111 #[.val (.int z1), .val (.int z2), .val (.int 1), .val (.int 0), .val (.ref ra1), .val (.ref sp0), .val (.ref b48), .unset, .unset] []))
    refine own_to (fun _ kont => XS.aload X57.here hx rfl (hb hby at_111) rfl rfl kont) ?_
    show own_Ends _ _ _ _ (T57.setTop (mkF m 113 #[.val (.int z1), .val (.int z2), .val (.int 1), .val (.int 0), .val (.ref ra1), .val (.ref sp0), .val (.ref b48), .unset, .unset] [(.ref b48)]))
    refine own_to (fun _ kont => XS.iloadN X57.here hx rfl (hb hby at_113) rfl kont) ?_
    show own_Ends _ _ _ _ (T57.setTop (mkF m 114 #[.val (.int z1), .val (.int z2), .val (.int 1), .val (.int 0), .val (.ref ra1), .val (.ref sp0), .val (.ref b48), .unset, .unset] [(.int 1), (.ref b48)]))
    refine own_to (fun _ kont => XS.iconst X57.here hx rfl (hb hby at_114) kont) ?_
    show own_Ends _ _ _ _ (T57.setTop (mkF m 115 #[.val (.int z1), .val (.int z2), .val (.int 1), .val (.int 0), .val (.ref ra1), .val (.ref sp0), .val (.ref b48), .unset, .unset] [(.int 3), (.int 1), (.ref b48)]))
    refine own_to (fun _ kont => XS.imul X57.here hx rfl (hb hby at_115) rfl kont) ?_
    show own_Ends _ _ _ _ (T57.setTop (mkF m 116 #[.val (.int z1), .val (.int z2), .val (.int 1), .val (.int 0), .val (.ref ra1), .val (.ref sp0), .val (.ref b48), .unset, .unset] [(.int 3), (.ref b48)]))
    refine own_to (fun _ kont => XS.iloadN X57.here hx rfl (hb hby at_116) rfl kont) ?_
    show own_Ends _ _ _ _ (T57.setTop (mkF m 117 #[.val (.int z1), .val (.int z2), .val (.int 1), .val (.int 0), .val (.ref ra1), .val (.ref sp0), .val (.ref b48), .unset, .unset] [(.int 0), (.int 3), (.ref b48)]))
    refine own_to (fun _ kont => XS.iadd X57.here hx rfl (hb hby at_117) rfl kont) ?_
    show own_Ends _ _ _ _ (T57.setTop (mkF m 118 #[.val (.int z1), .val (.int z2), .val (.int 1), .val (.int 0), .val (.ref ra1), .val (.ref sp0), .val (.ref b48), .unset, .unset] [(.int 3), (.ref b48)]))
    obtain ⟨cl58, Ar58, q58, S58, M58, H58, G58⟩ := Vs57
    have hin58 : ¬ ((3 : Int32) < 0 ∨ cl58.slots.size ≤ ((3 : Int32)).toNatClampNeg) := inb_of S58 ⟨by decide, by decide⟩
    have hat58 : cl58.slots[((3 : Int32)).toNatClampNeg]? = some (.int (1 : Int32)) := Has.at H58 hin58 rfl
    refine own_to (fun _ kont => X57.baloadBooleans hx (j := (3 : Int32)) (v := (.int (1 : Int32))) (by rw [e57]; exact Ar58.1) (State.isArrayOf_alike hZ.alike Ar58.2.1) Ar58.2.2 hin58 hat58 (g := (mkF m 118 #[.val (.int z1), .val (.int z2), .val (.int (1 : Int32)), .val (.int (0 : Int32)), .val (.ref ra1), .val (.ref sp0), .val (.ref b48), .unset, .unset] [(.int (3 : Int32)), (.ref b48)])) rfl rfl (hb hby at_118) _ kont) ?_
    show own_Ends _ _ _ _ (T57.setTop (mkF m 119 #[.val (.int z1), .val (.int z2), .val (.int 1), .val (.int 0), .val (.ref ra1), .val (.ref sp0), .val (.ref b48), .unset, .unset] [(.int 1)]))
    refine own_to (fun _ kont => XS.ifNo X57.here hx rfl (hb hby at_119) rfl ((if0 _ _).trans (feq (by decide)).1) kont) ?_
    show own_Ends _ _ _ _ (T57.setTop (mkF m 122 #[.val (.int z1), .val (.int z2), .val (.int 1), .val (.int 0), .val (.ref ra1), .val (.ref sp0), .val (.ref b48), .unset, .unset] []))
    obtain ⟨T59, X59, e59, st59⟩ := getS2 X57 hx hZ hown (host := "") (Or.inl (ow22 hw)) Via.refl e57 (S_el1.ext O57.2) (g := (mkF m 122 #[.val (.int z1), .val (.int z2), .val (.int (1 : Int32)), .val (.int (0 : Int32)), .val (.ref ra1), .val (.ref sp0), .val (.ref b48), .unset, .unset] [])) rfl (hb hby at_122)
    refine own_to st59 ?_
    show own_Ends _ _ _ _ (T59.setTop (mkF m 125 #[.val (.int z1), .val (.int z2), .val (.int 1), .val (.int 0), .val (.ref ra1), .val (.ref sp0), .val (.ref b48), .unset, .unset] [(.ref el1)]))
    refine own_to (fun _ kont => XS.goto X59.here hx rfl (pc0 := 125) (pc' := 131) rfl (hb hby at_125) (by decide) (by decide) kont) ?_
    show own_Ends _ _ _ _ (T59.setTop (mkF m 131 #[.val (.int z1), .val (.int z2), .val (.int 1), .val (.int 0), .val (.ref ra1), .val (.ref sp0), .val (.ref b48), .unset, .unset] [(.ref el1)]))
    refine own_to (fun _ kont => XS.astore X59.here hx rfl (hb hby at_131) rfl rfl (l' := #[.val (.int z1), .val (.int z2), .val (.int (1 : Int32)), .val (.int (0 : Int32)), .val (.ref ra1), .val (.ref sp0), .val (.ref b48), .val (.ref el1), .unset]) rfl kont) ?_
    show own_Ends _ _ _ _ (T59.setTop (mkF m 133 #[.val (.int z1), .val (.int z2), .val (.int 1), .val (.int 0), .val (.ref ra1), .val (.ref sp0), .val (.ref b48), .val (.ref el1), .unset] []))
    refine own_to (fun _ kont => XS.aload X59.here hx rfl (hb hby at_133) rfl rfl kont) ?_
    show own_Ends _ _ _ _ (T59.setTop (mkF m 135 #[.val (.int z1), .val (.int z2), .val (.int 1), .val (.int 0), .val (.ref ra1), .val (.ref sp0), .val (.ref b48), .val (.ref el1), .unset] [(.ref ra1)]))
    refine own_to (fun _ kont => XS.aload X59.here hx rfl (hb hby at_135) rfl rfl kont) ?_
    show own_Ends _ _ _ _ (T59.setTop (mkF m 137 #[.val (.int z1), .val (.int z2), .val (.int 1), .val (.int 0), .val (.ref ra1), .val (.ref sp0), .val (.ref b48), .val (.ref el1), .unset] [(.ref sp0), (.ref ra1)]))
    obtain ⟨_, _, ⟨T60, L60, k60, n60⟩, -, X60, ⟨Lc60, hQ60, l60, y60, z60⟩, st60⟩ := Jvm.LawKit.callS X59 hx (y := oM0) hown (mvT hZ (ow11 hw)) (mvT hZ (ow12 hw)) (mvT hZ (ow9 hw)) (mvT hZ (ow13 hw)) (by decide) (backOf (W := 0) (rm1 l Z a0 hw [] ra1 sp0 ra1 sp1 el1 el0 h57 n0 O57 S_ra1 S_sp1 S_el1 S_el0) hZ (ow13 hw) (ow9 hw) (by decide) (by decide)) (g := (mkF m 137 #[.val (.int z1), .val (.int z2), .val (.int (1 : Int32)), .val (.int (0 : Int32)), .val (.ref ra1), .val (.ref sp0), .val (.ref b48), .val (.ref el1), .unset] [(.ref sp0), (.ref ra1)])) rfl (by rw [hml]; rfl) (argsL := [(.ref ra1), (.ref sp0)]) (rest := []) (lenOf pd_0 rfl) rfl (by show 2 * 0 + _ ≤ _; exact Nat.le_of_eq rfl) (hb hby at_137) (fun _ _ => ⟨rfl, e59, (own_le rfl), (own_le rfl)⟩)
    dsimp only [Pt.U, Pt.locs, Pt.cells, Pt.slots] at X60 l60 y60 z60 st60 hQ60
    subst l60 y60 z60
    obtain ⟨hv60, N60q, E60⟩ := hQ60
    rw [own_of1] at hv60
    subst hv60
    have N60 := Fr.app N57 N60q
    refine own_to st60 ?_
    show own_Ends _ _ _ _ (T60.setTop (mkF m 140 #[.val (.int z1), .val (.int z2), .val (.int 1), .val (.int 0), .val (.ref ra1), .val (.ref sp0), .val (.ref b48), .val (.ref el1), .unset] [(.ref el1)]))
    refine own_to (fun _ kont => XS.astore X60.here hx rfl (hb hby at_140) rfl rfl (l' := #[.val (.int z1), .val (.int z2), .val (.int (1 : Int32)), .val (.int (0 : Int32)), .val (.ref ra1), .val (.ref sp0), .val (.ref b48), .val (.ref el1), .val (.ref el1)]) rfl kont) ?_
    show own_Ends _ _ _ _ (T60.setTop (mkF m 142 #[.val (.int z1), .val (.int z2), .val (.int 1), .val (.int 0), .val (.ref ra1), .val (.ref sp0), .val (.ref b48), .val (.ref el1), .val (.ref el1)] []))
    refine own_to (fun _ kont => XS.aload X60.here hx rfl (hb hby at_142) rfl rfl kont) ?_
    show own_Ends _ _ _ _ (T60.setTop (mkF m 144 #[.val (.int z1), .val (.int z2), .val (.int 1), .val (.int 0), .val (.ref ra1), .val (.ref sp0), .val (.ref b48), .val (.ref el1), .val (.ref el1)] [(.ref el1)]))
    refine own_to (fun _ kont => XS.ifnullNo X60.here hx rfl (hb hby at_144) rfl kont) ?_
    show own_Ends _ _ _ _ (T60.setTop (mkF m 147 #[.val (.int z1), .val (.int z2), .val (.int 1), .val (.int 0), .val (.ref ra1), .val (.ref sp0), .val (.ref b48), .val (.ref el1), .val (.ref el1)] []))
    refine own_to (fun _ kont => XS.aload X60.here hx rfl (hb hby at_147) rfl rfl kont) ?_
    show own_Ends _ _ _ _ (T60.setTop (mkF m 149 #[.val (.int z1), .val (.int z2), .val (.int 1), .val (.int 0), .val (.ref ra1), .val (.ref sp0), .val (.ref b48), .val (.ref el1), .val (.ref el1)] [(.ref el1)]))
    refine own_to (fun _ kont => XS.aload X60.here hx rfl (hb hby at_149) rfl rfl kont) ?_
    show own_Ends _ _ _ _ (T60.setTop (mkF m 151 #[.val (.int z1), .val (.int z2), .val (.int 1), .val (.int 0), .val (.ref ra1), .val (.ref sp0), .val (.ref b48), .val (.ref el1), .val (.ref el1)] [(.ref el1), (.ref el1)]))
    refine own_to (fun _ kont => Jvm.RoadKit.acmp (g := (mkF m 151 #[.val (.int z1), .val (.int z2), .val (.int (1 : Int32)), .val (.int (0 : Int32)), .val (.ref ra1), .val (.ref sp0), .val (.ref b48), .val (.ref el1), .val (.ref el1)] [(.ref el1), (.ref el1)])) X60 hx rfl rfl rfl (pc0 := 151) (pc' := 154) (same := true) rfl (hb hby at_151) rfl (decide_eq_true rfl) (by decide) (by decide) kont) ?_
    show own_Ends _ _ _ _ (T60.setTop (mkF m 154 #[.val (.int z1), .val (.int z2), .val (.int 1), .val (.int 0), .val (.ref ra1), .val (.ref sp0), .val (.ref b48), .val (.ref el1), .val (.ref el1)] []))
    refine own_to (fun _ kont => XS.iconst X60.here hx rfl (hb hby at_154) kont) ?_
    show own_Ends _ _ _ _ (T60.setTop (mkF m 155 #[.val (.int z1), .val (.int z2), .val (.int 1), .val (.int 0), .val (.ref ra1), .val (.ref sp0), .val (.ref b48), .val (.ref el1), .val (.ref el1)] [(.int 1)]))
    refine own_to (fun _ kont => XS.goto X60.here hx rfl (pc0 := 155) (pc' := 159) rfl (hb hby at_155) (by decide) (by decide) kont) ?_
    show own_Ends _ _ _ _ (T60.setTop (mkF m 159 #[.val (.int z1), .val (.int z2), .val (.int 1), .val (.int 0), .val (.ref ra1), .val (.ref sp0), .val (.ref b48), .val (.ref el1), .val (.ref el1)] [(.int 1)]))
    refine own_leave X60 (v := some (.int (1 : Int32))) (fun h => by rw [Bd.returns] at h; cases h) ?_ (by decide) (by decide) (fun fs hr => retN X60 hx (t := .boolean) Bd.returns (by simp) (hb hby at_159) hr)
    show Q_rm0 Z z1 z2 ra0 sp0 ra1 sp1 ra2 sp2 el0 el1 h0 n0 _ T60.heap _
    rw [E60]
    exact ⟨rfl, N60⟩
  · skip
    show own_Ends _ _ _ _ (s₁.setTop (mkF m 14 #[.val (.int z1), .val (.int z2), .val (.int 1), .val (.int 1), .unset, .unset, .unset, .unset, .unset] []))
    refine own_to (fun _ kont => XS.iloadN X0.here hx rfl (hb hby at_14) rfl kont) ?_
    show own_Ends _ _ _ _ (s₁.setTop (mkF m 15 #[.val (.int z1), .val (.int z2), .val (.int 1), .val (.int 1), .unset, .unset, .unset, .unset, .unset] [(.int 1)]))
    refine own_to (fun _ kont => XS.ifYes X0.here hx rfl (pc0 := 15) (pc' := 24) rfl (hb hby at_15) rfl ((if0 _ _).trans (feq (by decide)).2) (by decide) (by decide) kont) ?_
    show own_Ends _ _ _ _ (s₁.setTop (mkF m 24 #[.val (.int z1), .val (.int z2), .val (.int 1), .val (.int 1), .unset, .unset, .unset, .unset, .unset] []))
    refine own_to (fun _ kont => XS.iloadN X0.here hx rfl (hb hby at_24) rfl kont) ?_
    show own_Ends _ _ _ _ (s₁.setTop (mkF m 25 #[.val (.int z1), .val (.int z2), .val (.int 1), .val (.int 1), .unset, .unset, .unset, .unset, .unset] [(.int 1)]))
    refine own_to (fun _ kont => XS.iconst X0.here hx rfl (hb hby at_25) kont) ?_
    show own_Ends _ _ _ _ (s₁.setTop (mkF m 26 #[.val (.int z1), .val (.int z2), .val (.int 1), .val (.int 1), .unset, .unset, .unset, .unset, .unset] [(.int 1), (.int 1)]))
    refine own_to (fun _ kont => XS.icmpNo X0.here hx rfl (hb hby at_26) rfl (teq (by decide)).2 kont) ?_
    show own_Ends _ _ _ _ (s₁.setTop (mkF m 29 #[.val (.int z1), .val (.int z2), .val (.int 1), .val (.int 1), .unset, .unset, .unset, .unset, .unset] []))
    obtain ⟨T61, X61, e61, st61⟩ := getS2 X0 hx hZ hown (host := "") (Or.inl (ow27 hw)) Via.refl e0 (S_ra1.ext O0.2) (g := (mkF m 29 #[.val (.int z1), .val (.int z2), .val (.int (1 : Int32)), .val (.int (1 : Int32)), .unset, .unset, .unset, .unset, .unset] [])) rfl (hb hby at_29)
    refine own_to st61 ?_
    show own_Ends _ _ _ _ (T61.setTop (mkF m 32 #[.val (.int z1), .val (.int z2), .val (.int 1), .val (.int 1), .unset, .unset, .unset, .unset, .unset] [(.ref ra1)]))
    refine own_to (fun _ kont => XS.goto X61.here hx rfl (pc0 := 32) (pc' := 38) rfl (hb hby at_32) (by decide) (by decide) kont) ?_
    show own_Ends _ _ _ _ (T61.setTop (mkF m 38 #[.val (.int z1), .val (.int z2), .val (.int 1), .val (.int 1), .unset, .unset, .unset, .unset, .unset] [(.ref ra1)]))
    refine own_to (fun _ kont => XS.astore X61.here hx rfl (hb hby at_38) rfl rfl (l' := #[.val (.int z1), .val (.int z2), .val (.int (1 : Int32)), .val (.int (1 : Int32)), .val (.ref ra1), .unset, .unset, .unset, .unset]) rfl kont) ?_
    show own_Ends _ _ _ _ (T61.setTop (mkF m 40 #[.val (.int z1), .val (.int z2), .val (.int 1), .val (.int 1), .val (.ref ra1), .unset, .unset, .unset, .unset] []))
    refine own_to (fun _ kont => XS.iloadN X61.here hx rfl (hb hby at_40) rfl kont) ?_
    show own_Ends _ _ _ _ (T61.setTop (mkF m 41 #[.val (.int z1), .val (.int z2), .val (.int 1), .val (.int 1), .val (.ref ra1), .unset, .unset, .unset, .unset] [(.int 1)]))
    refine own_to (fun _ kont => XS.ifYes X61.here hx rfl (pc0 := 41) (pc' := 50) rfl (hb hby at_41) rfl ((if0 _ _).trans (feq (by decide)).2) (by decide) (by decide) kont) ?_
    show own_Ends _ _ _ _ (T61.setTop (mkF m 50 #[.val (.int z1), .val (.int z2), .val (.int 1), .val (.int 1), .val (.ref ra1), .unset, .unset, .unset, .unset] []))
    refine own_to (fun _ kont => XS.iloadN X61.here hx rfl (hb hby at_50) rfl kont) ?_
    show own_Ends _ _ _ _ (T61.setTop (mkF m 51 #[.val (.int z1), .val (.int z2), .val (.int 1), .val (.int 1), .val (.ref ra1), .unset, .unset, .unset, .unset] [(.int 1)]))
    refine own_to (fun _ kont => XS.iconst X61.here hx rfl (hb hby at_51) kont) ?_
    show own_Ends _ _ _ _ (T61.setTop (mkF m 52 #[.val (.int z1), .val (.int z2), .val (.int 1), .val (.int 1), .val (.ref ra1), .unset, .unset, .unset, .unset] [(.int 1), (.int 1)]))
    refine own_to (fun _ kont => XS.icmpNo X61.here hx rfl (hb hby at_52) rfl (teq (by decide)).2 kont) ?_
    show own_Ends _ _ _ _ (T61.setTop (mkF m 55 #[.val (.int z1), .val (.int z2), .val (.int 1), .val (.int 1), .val (.ref ra1), .unset, .unset, .unset, .unset] []))
    obtain ⟨T62, X62, e62, st62⟩ := getS2 X61 hx hZ hown (host := "") (Or.inl (ow21 hw)) Via.refl e61 (S_sp1.ext O0.2) (g := (mkF m 55 #[.val (.int z1), .val (.int z2), .val (.int (1 : Int32)), .val (.int (1 : Int32)), .val (.ref ra1), .unset, .unset, .unset, .unset] [])) rfl (hb hby at_55)
    refine own_to st62 ?_
    show own_Ends _ _ _ _ (T62.setTop (mkF m 58 #[.val (.int z1), .val (.int z2), .val (.int 1), .val (.int 1), .val (.ref ra1), .unset, .unset, .unset, .unset] [(.ref sp1)]))
    refine own_to (fun _ kont => XS.goto X62.here hx rfl (pc0 := 58) (pc' := 64) rfl (hb hby at_58) (by decide) (by decide) kont) ?_
    show own_Ends _ _ _ _ (T62.setTop (mkF m 64 #[.val (.int z1), .val (.int z2), .val (.int 1), .val (.int 1), .val (.ref ra1), .unset, .unset, .unset, .unset] [(.ref sp1)]))
    refine own_to (fun _ kont => XS.astore X62.here hx rfl (hb hby at_64) rfl rfl (l' := #[.val (.int z1), .val (.int z2), .val (.int (1 : Int32)), .val (.int (1 : Int32)), .val (.ref ra1), .val (.ref sp1), .unset, .unset, .unset]) rfl kont) ?_
    show own_Ends _ _ _ _ (T62.setTop (mkF m 66 #[.val (.int z1), .val (.int z2), .val (.int 1), .val (.int 1), .val (.ref ra1), .val (.ref sp1), .unset, .unset, .unset] []))
    refine own_to (fun _ kont => XS.bipush X62.here hx rfl (hb hby at_66) kont) ?_
    show own_Ends _ _ _ _ (T62.setTop (mkF m 68 #[.val (.int z1), .val (.int z2), .val (.int 1), .val (.int 1), .val (.ref ra1), .val (.ref sp1), .unset, .unset, .unset] [(.int 9)]))
    obtain ⟨T63, h63, k63, X63, e63, E63, A63, st63⟩ := newP X62 hx hZ (aty := .boolean) (ow7 hw) e62 (g := (mkF m 68 #[.val (.int z1), .val (.int z2), .val (.int (1 : Int32)), .val (.int (1 : Int32)), .val (.ref ra1), .val (.ref sp1), .unset, .unset, .unset] [(.int (9 : Int32))])) rfl (hb hby at_68) rfl (by decide) (cap := 9) (by decide) (by decide) (by decide) (by decide)
    obtain ⟨b63, g63⟩ : ∃ z, z = h0.size := ⟨_, rfl⟩
    rw [← g63] at A63 st63
    have g_b63 : n0 ≤ b63 := Nat.le_trans (own_old_le O0) (Nat.le_of_eq g63.symm)
    refine own_to st63 ?_
    have O63 := O0.ext E63
    have Vn63 : Arv Z h63 b63 k63 .boolean (9 : Int32) [(.int (0 : Int32)), (.int (0 : Int32)), (.int (0 : Int32)), (.int (0 : Int32)), (.int (0 : Int32)), (.int (0 : Int32)), (.int (0 : Int32)), (.int (0 : Int32)), (.int (0 : Int32))] (.int (0 : Int32)) := (Arv.new A63 (by decide)).pad (pad_rep [] (.int (0 : Int32)) 9)
    show own_Ends _ _ _ _ (T63.setTop (mkF m 70 #[.val (.int z1), .val (.int z2), .val (.int 1), .val (.int 1), .val (.ref ra1), .val (.ref sp1), .unset, .unset, .unset] [(.ref b63)]))
    refine own_to (fun _ kont => XS.dup X63.here hx rfl (hb hby at_70) rfl rfl kont) ?_
    show own_Ends _ _ _ _ (T63.setTop (mkF m 71 #[.val (.int z1), .val (.int z2), .val (.int 1), .val (.int 1), .val (.ref ra1), .val (.ref sp1), .unset, .unset, .unset] [(.ref b63), (.ref b63)]))
    refine own_to (fun _ kont => XS.iconst X63.here hx rfl (hb hby at_71) kont) ?_
    show own_Ends _ _ _ _ (T63.setTop (mkF m 72 #[.val (.int z1), .val (.int z2), .val (.int 1), .val (.int 1), .val (.ref ra1), .val (.ref sp1), .unset, .unset, .unset] [(.int 0), (.ref b63), (.ref b63)]))
    refine own_to (fun _ kont => XS.iconst X63.here hx rfl (hb hby at_72) kont) ?_
    show own_Ends _ _ _ _ (T63.setTop (mkF m 73 #[.val (.int z1), .val (.int z2), .val (.int 1), .val (.int 1), .val (.ref ra1), .val (.ref sp1), .unset, .unset, .unset] [(.int 0), (.int 0), (.ref b63), (.ref b63)]))
    obtain ⟨cl64, Ar64, q64, S64, M64, H64, G64⟩ := Vn63
    have hin64 : ¬ ((0 : Int32) < 0 ∨ cl64.slots.size ≤ ((0 : Int32)).toNatClampNeg) := inb_of S64 ⟨by decide, by decide⟩
    obtain ⟨T64, h64, X64, e64, W64, st64⟩ := stZ X63 hx hZ e63 Ar64 (j := (0 : Int32)) hin64 (g := (mkF m 73 #[.val (.int z1), .val (.int z2), .val (.int (1 : Int32)), .val (.int (1 : Int32)), .val (.ref ra1), .val (.ref sp1), .unset, .unset, .unset] [(.int (0 : Int32)), (.int (0 : Int32)), (.ref b63), (.ref b63)])) rfl rfl (hb hby at_73)
    have Vs64 : Arv Z h64 b63 k63 .boolean (9 : Int32) [(.int (0 : Int32)), (.int (0 : Int32)), (.int (0 : Int32)), (.int (0 : Int32)), (.int (0 : Int32)), (.int (0 : Int32)), (.int (0 : Int32)), (.int (0 : Int32)), (.int (0 : Int32))] (.int (0 : Int32)) := Arv.set Ar64 q64 S64 M64 H64 G64 (fits_nar_bool _) W64 0 rfl (own_lt rfl)
    refine own_to st64 ?_
    have O64 := O63.wr W64 g_b63
    have N64 := Fr.snoc X64 N0 g_b63
    show own_Ends _ _ _ _ (T64.setTop (mkF m 74 #[.val (.int z1), .val (.int z2), .val (.int 1), .val (.int 1), .val (.ref ra1), .val (.ref sp1), .unset, .unset, .unset] [(.ref b63)]))
    refine own_to (fun _ kont => XS.dup X64.here hx rfl (hb hby at_74) rfl rfl kont) ?_
    show own_Ends _ _ _ _ (T64.setTop (mkF m 75 #[.val (.int z1), .val (.int z2), .val (.int 1), .val (.int 1), .val (.ref ra1), .val (.ref sp1), .unset, .unset, .unset] [(.ref b63), (.ref b63)]))
    refine own_to (fun _ kont => XS.iconst X64.here hx rfl (hb hby at_75) kont) ?_
    show own_Ends _ _ _ _ (T64.setTop (mkF m 76 #[.val (.int z1), .val (.int z2), .val (.int 1), .val (.int 1), .val (.ref ra1), .val (.ref sp1), .unset, .unset, .unset] [(.int 1), (.ref b63), (.ref b63)]))
    refine own_to (fun _ kont => XS.iconst X64.here hx rfl (hb hby at_76) kont) ?_
    show own_Ends _ _ _ _ (T64.setTop (mkF m 77 #[.val (.int z1), .val (.int z2), .val (.int 1), .val (.int 1), .val (.ref ra1), .val (.ref sp1), .unset, .unset, .unset] [(.int 1), (.int 1), (.ref b63), (.ref b63)]))
    obtain ⟨cl65, Ar65, q65, S65, M65, H65, G65⟩ := Vs64
    have hin65 : ¬ ((1 : Int32) < 0 ∨ cl65.slots.size ≤ ((1 : Int32)).toNatClampNeg) := inb_of S65 ⟨by decide, by decide⟩
    obtain ⟨T65, h65, X65, e65, W65, st65⟩ := stZ X64 hx hZ e64 Ar65 (j := (1 : Int32)) hin65 (g := (mkF m 77 #[.val (.int z1), .val (.int z2), .val (.int (1 : Int32)), .val (.int (1 : Int32)), .val (.ref ra1), .val (.ref sp1), .unset, .unset, .unset] [(.int (1 : Int32)), (.int (1 : Int32)), (.ref b63), (.ref b63)])) rfl rfl (hb hby at_77)
    have Vs65 : Arv Z h65 b63 k63 .boolean (9 : Int32) [(.int (0 : Int32)), (.int (1 : Int32)), (.int (0 : Int32)), (.int (0 : Int32)), (.int (0 : Int32)), (.int (0 : Int32)), (.int (0 : Int32)), (.int (0 : Int32)), (.int (0 : Int32))] (.int (0 : Int32)) := Arv.set Ar65 q65 S65 M65 H65 G65 (fits_nar_bool _) W65 1 rfl (own_lt rfl)
    refine own_to st65 ?_
    have O65 := O64.wr W65 g_b63
    have N65 := Fr.snoc X65 N64 g_b63
    show own_Ends _ _ _ _ (T65.setTop (mkF m 78 #[.val (.int z1), .val (.int z2), .val (.int 1), .val (.int 1), .val (.ref ra1), .val (.ref sp1), .unset, .unset, .unset] [(.ref b63)]))
    refine own_to (fun _ kont => XS.dup X65.here hx rfl (hb hby at_78) rfl rfl kont) ?_
    show own_Ends _ _ _ _ (T65.setTop (mkF m 79 #[.val (.int z1), .val (.int z2), .val (.int 1), .val (.int 1), .val (.ref ra1), .val (.ref sp1), .unset, .unset, .unset] [(.ref b63), (.ref b63)]))
    refine own_to (fun _ kont => XS.iconst X65.here hx rfl (hb hby at_79) kont) ?_
    show own_Ends _ _ _ _ (T65.setTop (mkF m 80 #[.val (.int z1), .val (.int z2), .val (.int 1), .val (.int 1), .val (.ref ra1), .val (.ref sp1), .unset, .unset, .unset] [(.int 2), (.ref b63), (.ref b63)]))
    refine own_to (fun _ kont => XS.iconst X65.here hx rfl (hb hby at_80) kont) ?_
    show own_Ends _ _ _ _ (T65.setTop (mkF m 81 #[.val (.int z1), .val (.int z2), .val (.int 1), .val (.int 1), .val (.ref ra1), .val (.ref sp1), .unset, .unset, .unset] [(.int 0), (.int 2), (.ref b63), (.ref b63)]))
    obtain ⟨cl66, Ar66, q66, S66, M66, H66, G66⟩ := Vs65
    have hin66 : ¬ ((2 : Int32) < 0 ∨ cl66.slots.size ≤ ((2 : Int32)).toNatClampNeg) := inb_of S66 ⟨by decide, by decide⟩
    obtain ⟨T66, h66, X66, e66, W66, st66⟩ := stZ X65 hx hZ e65 Ar66 (j := (2 : Int32)) hin66 (g := (mkF m 81 #[.val (.int z1), .val (.int z2), .val (.int (1 : Int32)), .val (.int (1 : Int32)), .val (.ref ra1), .val (.ref sp1), .unset, .unset, .unset] [(.int (0 : Int32)), (.int (2 : Int32)), (.ref b63), (.ref b63)])) rfl rfl (hb hby at_81)
    have Vs66 : Arv Z h66 b63 k63 .boolean (9 : Int32) [(.int (0 : Int32)), (.int (1 : Int32)), (.int (0 : Int32)), (.int (0 : Int32)), (.int (0 : Int32)), (.int (0 : Int32)), (.int (0 : Int32)), (.int (0 : Int32)), (.int (0 : Int32))] (.int (0 : Int32)) := Arv.set Ar66 q66 S66 M66 H66 G66 (fits_nar_bool _) W66 2 rfl (own_lt rfl)
    refine own_to st66 ?_
    have O66 := O65.wr W66 g_b63
    have N66 := Fr.snoc X66 N65 g_b63
    show own_Ends _ _ _ _ (T66.setTop (mkF m 82 #[.val (.int z1), .val (.int z2), .val (.int 1), .val (.int 1), .val (.ref ra1), .val (.ref sp1), .unset, .unset, .unset] [(.ref b63)]))
    refine own_to (fun _ kont => XS.dup X66.here hx rfl (hb hby at_82) rfl rfl kont) ?_
    show own_Ends _ _ _ _ (T66.setTop (mkF m 83 #[.val (.int z1), .val (.int z2), .val (.int 1), .val (.int 1), .val (.ref ra1), .val (.ref sp1), .unset, .unset, .unset] [(.ref b63), (.ref b63)]))
    refine own_to (fun _ kont => XS.iconst X66.here hx rfl (hb hby at_83) kont) ?_
    show own_Ends _ _ _ _ (T66.setTop (mkF m 84 #[.val (.int z1), .val (.int z2), .val (.int 1), .val (.int 1), .val (.ref ra1), .val (.ref sp1), .unset, .unset, .unset] [(.int 3), (.ref b63), (.ref b63)]))
    refine own_to (fun _ kont => XS.iconst X66.here hx rfl (hb hby at_84) kont) ?_
    show own_Ends _ _ _ _ (T66.setTop (mkF m 85 #[.val (.int z1), .val (.int z2), .val (.int 1), .val (.int 1), .val (.ref ra1), .val (.ref sp1), .unset, .unset, .unset] [(.int 1), (.int 3), (.ref b63), (.ref b63)]))
    obtain ⟨cl67, Ar67, q67, S67, M67, H67, G67⟩ := Vs66
    have hin67 : ¬ ((3 : Int32) < 0 ∨ cl67.slots.size ≤ ((3 : Int32)).toNatClampNeg) := inb_of S67 ⟨by decide, by decide⟩
    obtain ⟨T67, h67, X67, e67, W67, st67⟩ := stZ X66 hx hZ e66 Ar67 (j := (3 : Int32)) hin67 (g := (mkF m 85 #[.val (.int z1), .val (.int z2), .val (.int (1 : Int32)), .val (.int (1 : Int32)), .val (.ref ra1), .val (.ref sp1), .unset, .unset, .unset] [(.int (1 : Int32)), (.int (3 : Int32)), (.ref b63), (.ref b63)])) rfl rfl (hb hby at_85)
    have Vs67 : Arv Z h67 b63 k63 .boolean (9 : Int32) [(.int (0 : Int32)), (.int (1 : Int32)), (.int (0 : Int32)), (.int (1 : Int32)), (.int (0 : Int32)), (.int (0 : Int32)), (.int (0 : Int32)), (.int (0 : Int32)), (.int (0 : Int32))] (.int (0 : Int32)) := Arv.set Ar67 q67 S67 M67 H67 G67 (fits_nar_bool _) W67 3 rfl (own_lt rfl)
    refine own_to st67 ?_
    have O67 := O66.wr W67 g_b63
    have N67 := Fr.snoc X67 N66 g_b63
    show own_Ends _ _ _ _ (T67.setTop (mkF m 86 #[.val (.int z1), .val (.int z2), .val (.int 1), .val (.int 1), .val (.ref ra1), .val (.ref sp1), .unset, .unset, .unset] [(.ref b63)]))
    refine own_to (fun _ kont => XS.dup X67.here hx rfl (hb hby at_86) rfl rfl kont) ?_
    show own_Ends _ _ _ _ (T67.setTop (mkF m 87 #[.val (.int z1), .val (.int z2), .val (.int 1), .val (.int 1), .val (.ref ra1), .val (.ref sp1), .unset, .unset, .unset] [(.ref b63), (.ref b63)]))
    refine own_to (fun _ kont => XS.iconst X67.here hx rfl (hb hby at_87) kont) ?_
    show own_Ends _ _ _ _ (T67.setTop (mkF m 88 #[.val (.int z1), .val (.int z2), .val (.int 1), .val (.int 1), .val (.ref ra1), .val (.ref sp1), .unset, .unset, .unset] [(.int 4), (.ref b63), (.ref b63)]))
    refine own_to (fun _ kont => XS.iconst X67.here hx rfl (hb hby at_88) kont) ?_
    show own_Ends _ _ _ _ (T67.setTop (mkF m 89 #[.val (.int z1), .val (.int z2), .val (.int 1), .val (.int 1), .val (.ref ra1), .val (.ref sp1), .unset, .unset, .unset] [(.int 1), (.int 4), (.ref b63), (.ref b63)]))
    obtain ⟨cl68, Ar68, q68, S68, M68, H68, G68⟩ := Vs67
    have hin68 : ¬ ((4 : Int32) < 0 ∨ cl68.slots.size ≤ ((4 : Int32)).toNatClampNeg) := inb_of S68 ⟨by decide, by decide⟩
    obtain ⟨T68, h68, X68, e68, W68, st68⟩ := stZ X67 hx hZ e67 Ar68 (j := (4 : Int32)) hin68 (g := (mkF m 89 #[.val (.int z1), .val (.int z2), .val (.int (1 : Int32)), .val (.int (1 : Int32)), .val (.ref ra1), .val (.ref sp1), .unset, .unset, .unset] [(.int (1 : Int32)), (.int (4 : Int32)), (.ref b63), (.ref b63)])) rfl rfl (hb hby at_89)
    have Vs68 : Arv Z h68 b63 k63 .boolean (9 : Int32) [(.int (0 : Int32)), (.int (1 : Int32)), (.int (0 : Int32)), (.int (1 : Int32)), (.int (1 : Int32)), (.int (0 : Int32)), (.int (0 : Int32)), (.int (0 : Int32)), (.int (0 : Int32))] (.int (0 : Int32)) := Arv.set Ar68 q68 S68 M68 H68 G68 (fits_nar_bool _) W68 4 rfl (own_lt rfl)
    refine own_to st68 ?_
    have O68 := O67.wr W68 g_b63
    have N68 := Fr.snoc X68 N67 g_b63
    show own_Ends _ _ _ _ (T68.setTop (mkF m 90 #[.val (.int z1), .val (.int z2), .val (.int 1), .val (.int 1), .val (.ref ra1), .val (.ref sp1), .unset, .unset, .unset] [(.ref b63)]))
    refine own_to (fun _ kont => XS.dup X68.here hx rfl (hb hby at_90) rfl rfl kont) ?_
    show own_Ends _ _ _ _ (T68.setTop (mkF m 91 #[.val (.int z1), .val (.int z2), .val (.int 1), .val (.int 1), .val (.ref ra1), .val (.ref sp1), .unset, .unset, .unset] [(.ref b63), (.ref b63)]))
    refine own_to (fun _ kont => XS.iconst X68.here hx rfl (hb hby at_91) kont) ?_
    show own_Ends _ _ _ _ (T68.setTop (mkF m 92 #[.val (.int z1), .val (.int z2), .val (.int 1), .val (.int 1), .val (.ref ra1), .val (.ref sp1), .unset, .unset, .unset] [(.int 5), (.ref b63), (.ref b63)]))
    refine own_to (fun _ kont => XS.iconst X68.here hx rfl (hb hby at_92) kont) ?_
    show own_Ends _ _ _ _ (T68.setTop (mkF m 93 #[.val (.int z1), .val (.int z2), .val (.int 1), .val (.int 1), .val (.ref ra1), .val (.ref sp1), .unset, .unset, .unset] [(.int 1), (.int 5), (.ref b63), (.ref b63)]))
    obtain ⟨cl69, Ar69, q69, S69, M69, H69, G69⟩ := Vs68
    have hin69 : ¬ ((5 : Int32) < 0 ∨ cl69.slots.size ≤ ((5 : Int32)).toNatClampNeg) := inb_of S69 ⟨by decide, by decide⟩
    obtain ⟨T69, h69, X69, e69, W69, st69⟩ := stZ X68 hx hZ e68 Ar69 (j := (5 : Int32)) hin69 (g := (mkF m 93 #[.val (.int z1), .val (.int z2), .val (.int (1 : Int32)), .val (.int (1 : Int32)), .val (.ref ra1), .val (.ref sp1), .unset, .unset, .unset] [(.int (1 : Int32)), (.int (5 : Int32)), (.ref b63), (.ref b63)])) rfl rfl (hb hby at_93)
    have Vs69 : Arv Z h69 b63 k63 .boolean (9 : Int32) [(.int (0 : Int32)), (.int (1 : Int32)), (.int (0 : Int32)), (.int (1 : Int32)), (.int (1 : Int32)), (.int (1 : Int32)), (.int (0 : Int32)), (.int (0 : Int32)), (.int (0 : Int32))] (.int (0 : Int32)) := Arv.set Ar69 q69 S69 M69 H69 G69 (fits_nar_bool _) W69 5 rfl (own_lt rfl)
    refine own_to st69 ?_
    have O69 := O68.wr W69 g_b63
    have N69 := Fr.snoc X69 N68 g_b63
    show own_Ends _ _ _ _ (T69.setTop (mkF m 94 #[.val (.int z1), .val (.int z2), .val (.int 1), .val (.int 1), .val (.ref ra1), .val (.ref sp1), .unset, .unset, .unset] [(.ref b63)]))
    refine own_to (fun _ kont => XS.dup X69.here hx rfl (hb hby at_94) rfl rfl kont) ?_
    show own_Ends _ _ _ _ (T69.setTop (mkF m 95 #[.val (.int z1), .val (.int z2), .val (.int 1), .val (.int 1), .val (.ref ra1), .val (.ref sp1), .unset, .unset, .unset] [(.ref b63), (.ref b63)]))
    refine own_to (fun _ kont => XS.bipush X69.here hx rfl (hb hby at_95) kont) ?_
    show own_Ends _ _ _ _ (T69.setTop (mkF m 97 #[.val (.int z1), .val (.int z2), .val (.int 1), .val (.int 1), .val (.ref ra1), .val (.ref sp1), .unset, .unset, .unset] [(.int 6), (.ref b63), (.ref b63)]))
    refine own_to (fun _ kont => XS.iconst X69.here hx rfl (hb hby at_97) kont) ?_
    show own_Ends _ _ _ _ (T69.setTop (mkF m 98 #[.val (.int z1), .val (.int z2), .val (.int 1), .val (.int 1), .val (.ref ra1), .val (.ref sp1), .unset, .unset, .unset] [(.int 0), (.int 6), (.ref b63), (.ref b63)]))
    obtain ⟨cl70, Ar70, q70, S70, M70, H70, G70⟩ := Vs69
    have hin70 : ¬ ((6 : Int32) < 0 ∨ cl70.slots.size ≤ ((6 : Int32)).toNatClampNeg) := inb_of S70 ⟨by decide, by decide⟩
    obtain ⟨T70, h70, X70, e70, W70, st70⟩ := stZ X69 hx hZ e69 Ar70 (j := (6 : Int32)) hin70 (g := (mkF m 98 #[.val (.int z1), .val (.int z2), .val (.int (1 : Int32)), .val (.int (1 : Int32)), .val (.ref ra1), .val (.ref sp1), .unset, .unset, .unset] [(.int (0 : Int32)), (.int (6 : Int32)), (.ref b63), (.ref b63)])) rfl rfl (hb hby at_98)
    have Vs70 : Arv Z h70 b63 k63 .boolean (9 : Int32) [(.int (0 : Int32)), (.int (1 : Int32)), (.int (0 : Int32)), (.int (1 : Int32)), (.int (1 : Int32)), (.int (1 : Int32)), (.int (0 : Int32)), (.int (0 : Int32)), (.int (0 : Int32))] (.int (0 : Int32)) := Arv.set Ar70 q70 S70 M70 H70 G70 (fits_nar_bool _) W70 6 rfl (own_lt rfl)
    refine own_to st70 ?_
    have O70 := O69.wr W70 g_b63
    have N70 := Fr.snoc X70 N69 g_b63
    show own_Ends _ _ _ _ (T70.setTop (mkF m 99 #[.val (.int z1), .val (.int z2), .val (.int 1), .val (.int 1), .val (.ref ra1), .val (.ref sp1), .unset, .unset, .unset] [(.ref b63)]))
    refine own_to (fun _ kont => XS.dup X70.here hx rfl (hb hby at_99) rfl rfl kont) ?_
    show own_Ends _ _ _ _ (T70.setTop (mkF m 100 #[.val (.int z1), .val (.int z2), .val (.int 1), .val (.int 1), .val (.ref ra1), .val (.ref sp1), .unset, .unset, .unset] [(.ref b63), (.ref b63)]))
    refine own_to (fun _ kont => XS.bipush X70.here hx rfl (hb hby at_100) kont) ?_
    show own_Ends _ _ _ _ (T70.setTop (mkF m 102 #[.val (.int z1), .val (.int z2), .val (.int 1), .val (.int 1), .val (.ref ra1), .val (.ref sp1), .unset, .unset, .unset] [(.int 7), (.ref b63), (.ref b63)]))
    refine own_to (fun _ kont => XS.iconst X70.here hx rfl (hb hby at_102) kont) ?_
    show own_Ends _ _ _ _ (T70.setTop (mkF m 103 #[.val (.int z1), .val (.int z2), .val (.int 1), .val (.int 1), .val (.ref ra1), .val (.ref sp1), .unset, .unset, .unset] [(.int 1), (.int 7), (.ref b63), (.ref b63)]))
    obtain ⟨cl71, Ar71, q71, S71, M71, H71, G71⟩ := Vs70
    have hin71 : ¬ ((7 : Int32) < 0 ∨ cl71.slots.size ≤ ((7 : Int32)).toNatClampNeg) := inb_of S71 ⟨by decide, by decide⟩
    obtain ⟨T71, h71, X71, e71, W71, st71⟩ := stZ X70 hx hZ e70 Ar71 (j := (7 : Int32)) hin71 (g := (mkF m 103 #[.val (.int z1), .val (.int z2), .val (.int (1 : Int32)), .val (.int (1 : Int32)), .val (.ref ra1), .val (.ref sp1), .unset, .unset, .unset] [(.int (1 : Int32)), (.int (7 : Int32)), (.ref b63), (.ref b63)])) rfl rfl (hb hby at_103)
    have Vs71 : Arv Z h71 b63 k63 .boolean (9 : Int32) [(.int (0 : Int32)), (.int (1 : Int32)), (.int (0 : Int32)), (.int (1 : Int32)), (.int (1 : Int32)), (.int (1 : Int32)), (.int (0 : Int32)), (.int (1 : Int32)), (.int (0 : Int32))] (.int (0 : Int32)) := Arv.set Ar71 q71 S71 M71 H71 G71 (fits_nar_bool _) W71 7 rfl (own_lt rfl)
    refine own_to st71 ?_
    have O71 := O70.wr W71 g_b63
    have N71 := Fr.snoc X71 N70 g_b63
    show own_Ends _ _ _ _ (T71.setTop (mkF m 104 #[.val (.int z1), .val (.int z2), .val (.int 1), .val (.int 1), .val (.ref ra1), .val (.ref sp1), .unset, .unset, .unset] [(.ref b63)]))
    refine own_to (fun _ kont => XS.dup X71.here hx rfl (hb hby at_104) rfl rfl kont) ?_
    show own_Ends _ _ _ _ (T71.setTop (mkF m 105 #[.val (.int z1), .val (.int z2), .val (.int 1), .val (.int 1), .val (.ref ra1), .val (.ref sp1), .unset, .unset, .unset] [(.ref b63), (.ref b63)]))
    refine own_to (fun _ kont => XS.bipush X71.here hx rfl (hb hby at_105) kont) ?_
    show own_Ends _ _ _ _ (T71.setTop (mkF m 107 #[.val (.int z1), .val (.int z2), .val (.int 1), .val (.int 1), .val (.ref ra1), .val (.ref sp1), .unset, .unset, .unset] [(.int 8), (.ref b63), (.ref b63)]))
    refine own_to (fun _ kont => XS.iconst X71.here hx rfl (hb hby at_107) kont) ?_
    show own_Ends _ _ _ _ (T71.setTop (mkF m 108 #[.val (.int z1), .val (.int z2), .val (.int 1), .val (.int 1), .val (.ref ra1), .val (.ref sp1), .unset, .unset, .unset] [(.int 0), (.int 8), (.ref b63), (.ref b63)]))
    obtain ⟨cl72, Ar72, q72, S72, M72, H72, G72⟩ := Vs71
    have hin72 : ¬ ((8 : Int32) < 0 ∨ cl72.slots.size ≤ ((8 : Int32)).toNatClampNeg) := inb_of S72 ⟨by decide, by decide⟩
    obtain ⟨T72, h72, X72, e72, W72, st72⟩ := stZ X71 hx hZ e71 Ar72 (j := (8 : Int32)) hin72 (g := (mkF m 108 #[.val (.int z1), .val (.int z2), .val (.int (1 : Int32)), .val (.int (1 : Int32)), .val (.ref ra1), .val (.ref sp1), .unset, .unset, .unset] [(.int (0 : Int32)), (.int (8 : Int32)), (.ref b63), (.ref b63)])) rfl rfl (hb hby at_108)
    have Vs72 : Arv Z h72 b63 k63 .boolean (9 : Int32) [(.int (0 : Int32)), (.int (1 : Int32)), (.int (0 : Int32)), (.int (1 : Int32)), (.int (1 : Int32)), (.int (1 : Int32)), (.int (0 : Int32)), (.int (1 : Int32)), (.int (0 : Int32))] (.int (0 : Int32)) := Arv.set Ar72 q72 S72 M72 H72 G72 (fits_nar_bool _) W72 8 rfl (own_lt rfl)
    refine own_to st72 ?_
    have O72 := O71.wr W72 g_b63
    have N72 := Fr.snoc X72 N71 g_b63
    show own_Ends _ _ _ _ (T72.setTop (mkF m 109 #[.val (.int z1), .val (.int z2), .val (.int 1), .val (.int 1), .val (.ref ra1), .val (.ref sp1), .unset, .unset, .unset] [(.ref b63)]))
    refine own_to (fun _ kont => XS.astore X72.here hx rfl (hb hby at_109) rfl rfl (l' := #[.val (.int z1), .val (.int z2), .val (.int (1 : Int32)), .val (.int (1 : Int32)), .val (.ref ra1), .val (.ref sp1), .val (.ref b63), .unset, .unset]) rfl kont) ?_
    show own_Ends _ _ _ _ (T72.setTop (mkF m 111 #[.val (.int z1), .val (.int z2), .val (.int 1), .val (.int 1), .val (.ref ra1), .val (.ref sp1), .val (.ref b63), .unset, .unset] []))
    refine own_to (fun _ kont => XS.aload X72.here hx rfl (hb hby at_111) rfl rfl kont) ?_
    show own_Ends _ _ _ _ (T72.setTop (mkF m 113 #[.val (.int z1), .val (.int z2), .val (.int 1), .val (.int 1), .val (.ref ra1), .val (.ref sp1), .val (.ref b63), .unset, .unset] [(.ref b63)]))
    refine own_to (fun _ kont => XS.iloadN X72.here hx rfl (hb hby at_113) rfl kont) ?_
    show own_Ends _ _ _ _ (T72.setTop (mkF m 114 #[.val (.int z1), .val (.int z2), .val (.int 1), .val (.int 1), .val (.ref ra1), .val (.ref sp1), .val (.ref b63), .unset, .unset] [(.int 1), (.ref b63)]))
    refine own_to (fun _ kont => XS.iconst X72.here hx rfl (hb hby at_114) kont) ?_
    show own_Ends _ _ _ _ (T72.setTop (mkF m 115 #[.val (.int z1), .val (.int z2), .val (.int 1), .val (.int 1), .val (.ref ra1), .val (.ref sp1), .val (.ref b63), .unset, .unset] [(.int 3), (.int 1), (.ref b63)]))
    refine own_to (fun _ kont => XS.imul X72.here hx rfl (hb hby at_115) rfl kont) ?_
    show own_Ends _ _ _ _ (T72.setTop (mkF m 116 #[.val (.int z1), .val (.int z2), .val (.int 1), .val (.int 1), .val (.ref ra1), .val (.ref sp1), .val (.ref b63), .unset, .unset] [(.int 3), (.ref b63)]))
    refine own_to (fun _ kont => XS.iloadN X72.here hx rfl (hb hby at_116) rfl kont) ?_
    show own_Ends _ _ _ _ (T72.setTop (mkF m 117 #[.val (.int z1), .val (.int z2), .val (.int 1), .val (.int 1), .val (.ref ra1), .val (.ref sp1), .val (.ref b63), .unset, .unset] [(.int 1), (.int 3), (.ref b63)]))
    refine own_to (fun _ kont => XS.iadd X72.here hx rfl (hb hby at_117) rfl kont) ?_
    show own_Ends _ _ _ _ (T72.setTop (mkF m 118 #[.val (.int z1), .val (.int z2), .val (.int 1), .val (.int 1), .val (.ref ra1), .val (.ref sp1), .val (.ref b63), .unset, .unset] [(.int 4), (.ref b63)]))
    obtain ⟨cl73, Ar73, q73, S73, M73, H73, G73⟩ := Vs72
    have hin73 : ¬ ((4 : Int32) < 0 ∨ cl73.slots.size ≤ ((4 : Int32)).toNatClampNeg) := inb_of S73 ⟨by decide, by decide⟩
    have hat73 : cl73.slots[((4 : Int32)).toNatClampNeg]? = some (.int (1 : Int32)) := Has.at H73 hin73 rfl
    refine own_to (fun _ kont => X72.baloadBooleans hx (j := (4 : Int32)) (v := (.int (1 : Int32))) (by rw [e72]; exact Ar73.1) (State.isArrayOf_alike hZ.alike Ar73.2.1) Ar73.2.2 hin73 hat73 (g := (mkF m 118 #[.val (.int z1), .val (.int z2), .val (.int (1 : Int32)), .val (.int (1 : Int32)), .val (.ref ra1), .val (.ref sp1), .val (.ref b63), .unset, .unset] [(.int (4 : Int32)), (.ref b63)])) rfl rfl (hb hby at_118) _ kont) ?_
    show own_Ends _ _ _ _ (T72.setTop (mkF m 119 #[.val (.int z1), .val (.int z2), .val (.int 1), .val (.int 1), .val (.ref ra1), .val (.ref sp1), .val (.ref b63), .unset, .unset] [(.int 1)]))
    refine own_to (fun _ kont => XS.ifNo X72.here hx rfl (hb hby at_119) rfl ((if0 _ _).trans (feq (by decide)).1) kont) ?_
    show own_Ends _ _ _ _ (T72.setTop (mkF m 122 #[.val (.int z1), .val (.int z2), .val (.int 1), .val (.int 1), .val (.ref ra1), .val (.ref sp1), .val (.ref b63), .unset, .unset] []))
    obtain ⟨T74, X74, e74, st74⟩ := getS2 X72 hx hZ hown (host := "") (Or.inl (ow22 hw)) Via.refl e72 (S_el1.ext O72.2) (g := (mkF m 122 #[.val (.int z1), .val (.int z2), .val (.int (1 : Int32)), .val (.int (1 : Int32)), .val (.ref ra1), .val (.ref sp1), .val (.ref b63), .unset, .unset] [])) rfl (hb hby at_122)
    refine own_to st74 ?_
    show own_Ends _ _ _ _ (T74.setTop (mkF m 125 #[.val (.int z1), .val (.int z2), .val (.int 1), .val (.int 1), .val (.ref ra1), .val (.ref sp1), .val (.ref b63), .unset, .unset] [(.ref el1)]))
    refine own_to (fun _ kont => XS.goto X74.here hx rfl (pc0 := 125) (pc' := 131) rfl (hb hby at_125) (by decide) (by decide) kont) ?_
    show own_Ends _ _ _ _ (T74.setTop (mkF m 131 #[.val (.int z1), .val (.int z2), .val (.int 1), .val (.int 1), .val (.ref ra1), .val (.ref sp1), .val (.ref b63), .unset, .unset] [(.ref el1)]))
    refine own_to (fun _ kont => XS.astore X74.here hx rfl (hb hby at_131) rfl rfl (l' := #[.val (.int z1), .val (.int z2), .val (.int (1 : Int32)), .val (.int (1 : Int32)), .val (.ref ra1), .val (.ref sp1), .val (.ref b63), .val (.ref el1), .unset]) rfl kont) ?_
    show own_Ends _ _ _ _ (T74.setTop (mkF m 133 #[.val (.int z1), .val (.int z2), .val (.int 1), .val (.int 1), .val (.ref ra1), .val (.ref sp1), .val (.ref b63), .val (.ref el1), .unset] []))
    refine own_to (fun _ kont => XS.aload X74.here hx rfl (hb hby at_133) rfl rfl kont) ?_
    show own_Ends _ _ _ _ (T74.setTop (mkF m 135 #[.val (.int z1), .val (.int z2), .val (.int 1), .val (.int 1), .val (.ref ra1), .val (.ref sp1), .val (.ref b63), .val (.ref el1), .unset] [(.ref ra1)]))
    refine own_to (fun _ kont => XS.aload X74.here hx rfl (hb hby at_135) rfl rfl kont) ?_
    show own_Ends _ _ _ _ (T74.setTop (mkF m 137 #[.val (.int z1), .val (.int z2), .val (.int 1), .val (.int 1), .val (.ref ra1), .val (.ref sp1), .val (.ref b63), .val (.ref el1), .unset] [(.ref sp1), (.ref ra1)]))
    obtain ⟨_, _, ⟨T75, L75, k75, n75⟩, -, X75, ⟨Lc75, hQ75, l75, y75, z75⟩, st75⟩ := Jvm.LawKit.callS X74 hx (y := oM0) hown (mvT hZ (ow11 hw)) (mvT hZ (ow12 hw)) (mvT hZ (ow9 hw)) (mvT hZ (ow13 hw)) (by decide) (backOf (W := 0) (rm1 l Z a0 hw [] ra1 sp1 ra1 sp1 el1 el0 h72 n0 O72 S_ra1 S_sp1 S_el1 S_el0) hZ (ow13 hw) (ow9 hw) (by decide) (by decide)) (g := (mkF m 137 #[.val (.int z1), .val (.int z2), .val (.int (1 : Int32)), .val (.int (1 : Int32)), .val (.ref ra1), .val (.ref sp1), .val (.ref b63), .val (.ref el1), .unset] [(.ref sp1), (.ref ra1)])) rfl (by rw [hml]; rfl) (argsL := [(.ref ra1), (.ref sp1)]) (rest := []) (lenOf pd_0 rfl) rfl (by show 2 * 0 + _ ≤ _; exact Nat.le_of_eq rfl) (hb hby at_137) (fun _ _ => ⟨rfl, e74, (own_le rfl), (own_le rfl)⟩)
    dsimp only [Pt.U, Pt.locs, Pt.cells, Pt.slots] at X75 l75 y75 z75 st75 hQ75
    subst l75 y75 z75
    obtain ⟨hv75, N75q, E75⟩ := hQ75
    rw [own_of1] at hv75
    subst hv75
    have N75 := Fr.app N72 N75q
    refine own_to st75 ?_
    show own_Ends _ _ _ _ (T75.setTop (mkF m 140 #[.val (.int z1), .val (.int z2), .val (.int 1), .val (.int 1), .val (.ref ra1), .val (.ref sp1), .val (.ref b63), .val (.ref el1), .unset] [(.ref el1)]))
    refine own_to (fun _ kont => XS.astore X75.here hx rfl (hb hby at_140) rfl rfl (l' := #[.val (.int z1), .val (.int z2), .val (.int (1 : Int32)), .val (.int (1 : Int32)), .val (.ref ra1), .val (.ref sp1), .val (.ref b63), .val (.ref el1), .val (.ref el1)]) rfl kont) ?_
    show own_Ends _ _ _ _ (T75.setTop (mkF m 142 #[.val (.int z1), .val (.int z2), .val (.int 1), .val (.int 1), .val (.ref ra1), .val (.ref sp1), .val (.ref b63), .val (.ref el1), .val (.ref el1)] []))
    refine own_to (fun _ kont => XS.aload X75.here hx rfl (hb hby at_142) rfl rfl kont) ?_
    show own_Ends _ _ _ _ (T75.setTop (mkF m 144 #[.val (.int z1), .val (.int z2), .val (.int 1), .val (.int 1), .val (.ref ra1), .val (.ref sp1), .val (.ref b63), .val (.ref el1), .val (.ref el1)] [(.ref el1)]))
    refine own_to (fun _ kont => XS.ifnullNo X75.here hx rfl (hb hby at_144) rfl kont) ?_
    show own_Ends _ _ _ _ (T75.setTop (mkF m 147 #[.val (.int z1), .val (.int z2), .val (.int 1), .val (.int 1), .val (.ref ra1), .val (.ref sp1), .val (.ref b63), .val (.ref el1), .val (.ref el1)] []))
    refine own_to (fun _ kont => XS.aload X75.here hx rfl (hb hby at_147) rfl rfl kont) ?_
    show own_Ends _ _ _ _ (T75.setTop (mkF m 149 #[.val (.int z1), .val (.int z2), .val (.int 1), .val (.int 1), .val (.ref ra1), .val (.ref sp1), .val (.ref b63), .val (.ref el1), .val (.ref el1)] [(.ref el1)]))
    refine own_to (fun _ kont => XS.aload X75.here hx rfl (hb hby at_149) rfl rfl kont) ?_
    show own_Ends _ _ _ _ (T75.setTop (mkF m 151 #[.val (.int z1), .val (.int z2), .val (.int 1), .val (.int 1), .val (.ref ra1), .val (.ref sp1), .val (.ref b63), .val (.ref el1), .val (.ref el1)] [(.ref el1), (.ref el1)]))
    refine own_to (fun _ kont => Jvm.RoadKit.acmp (g := (mkF m 151 #[.val (.int z1), .val (.int z2), .val (.int (1 : Int32)), .val (.int (1 : Int32)), .val (.ref ra1), .val (.ref sp1), .val (.ref b63), .val (.ref el1), .val (.ref el1)] [(.ref el1), (.ref el1)])) X75 hx rfl rfl rfl (pc0 := 151) (pc' := 154) (same := true) rfl (hb hby at_151) rfl (decide_eq_true rfl) (by decide) (by decide) kont) ?_
    show own_Ends _ _ _ _ (T75.setTop (mkF m 154 #[.val (.int z1), .val (.int z2), .val (.int 1), .val (.int 1), .val (.ref ra1), .val (.ref sp1), .val (.ref b63), .val (.ref el1), .val (.ref el1)] []))
    refine own_to (fun _ kont => XS.iconst X75.here hx rfl (hb hby at_154) kont) ?_
    show own_Ends _ _ _ _ (T75.setTop (mkF m 155 #[.val (.int z1), .val (.int z2), .val (.int 1), .val (.int 1), .val (.ref ra1), .val (.ref sp1), .val (.ref b63), .val (.ref el1), .val (.ref el1)] [(.int 1)]))
    refine own_to (fun _ kont => XS.goto X75.here hx rfl (pc0 := 155) (pc' := 159) rfl (hb hby at_155) (by decide) (by decide) kont) ?_
    show own_Ends _ _ _ _ (T75.setTop (mkF m 159 #[.val (.int z1), .val (.int z2), .val (.int 1), .val (.int 1), .val (.ref ra1), .val (.ref sp1), .val (.ref b63), .val (.ref el1), .val (.ref el1)] [(.int 1)]))
    refine own_leave X75 (v := some (.int (1 : Int32))) (fun h => by rw [Bd.returns] at h; cases h) ?_ (by decide) (by decide) (fun fs hr => retN X75 hx (t := .boolean) Bd.returns (by simp) (hb hby at_159) hr)
    show Q_rm0 Z z1 z2 ra0 sp0 ra1 sp1 ra2 sp2 el0 el1 h0 n0 _ T75.heap _
    rw [E75]
    exact ⟨rfl, N75⟩
  · skip
    show own_Ends _ _ _ _ (s₁.setTop (mkF m 14 #[.val (.int z1), .val (.int z2), .val (.int 1), .val (.int 2), .unset, .unset, .unset, .unset, .unset] []))
    refine own_to (fun _ kont => XS.iloadN X0.here hx rfl (hb hby at_14) rfl kont) ?_
    show own_Ends _ _ _ _ (s₁.setTop (mkF m 15 #[.val (.int z1), .val (.int z2), .val (.int 1), .val (.int 2), .unset, .unset, .unset, .unset, .unset] [(.int 1)]))
    refine own_to (fun _ kont => XS.ifYes X0.here hx rfl (pc0 := 15) (pc' := 24) rfl (hb hby at_15) rfl ((if0 _ _).trans (feq (by decide)).2) (by decide) (by decide) kont) ?_
    show own_Ends _ _ _ _ (s₁.setTop (mkF m 24 #[.val (.int z1), .val (.int z2), .val (.int 1), .val (.int 2), .unset, .unset, .unset, .unset, .unset] []))
    refine own_to (fun _ kont => XS.iloadN X0.here hx rfl (hb hby at_24) rfl kont) ?_
    show own_Ends _ _ _ _ (s₁.setTop (mkF m 25 #[.val (.int z1), .val (.int z2), .val (.int 1), .val (.int 2), .unset, .unset, .unset, .unset, .unset] [(.int 1)]))
    refine own_to (fun _ kont => XS.iconst X0.here hx rfl (hb hby at_25) kont) ?_
    show own_Ends _ _ _ _ (s₁.setTop (mkF m 26 #[.val (.int z1), .val (.int z2), .val (.int 1), .val (.int 2), .unset, .unset, .unset, .unset, .unset] [(.int 1), (.int 1)]))
    refine own_to (fun _ kont => XS.icmpNo X0.here hx rfl (hb hby at_26) rfl (teq (by decide)).2 kont) ?_
    show own_Ends _ _ _ _ (s₁.setTop (mkF m 29 #[.val (.int z1), .val (.int z2), .val (.int 1), .val (.int 2), .unset, .unset, .unset, .unset, .unset] []))
    obtain ⟨T76, X76, e76, st76⟩ := getS2 X0 hx hZ hown (host := "") (Or.inl (ow27 hw)) Via.refl e0 (S_ra1.ext O0.2) (g := (mkF m 29 #[.val (.int z1), .val (.int z2), .val (.int (1 : Int32)), .val (.int (2 : Int32)), .unset, .unset, .unset, .unset, .unset] [])) rfl (hb hby at_29)
    refine own_to st76 ?_
    show own_Ends _ _ _ _ (T76.setTop (mkF m 32 #[.val (.int z1), .val (.int z2), .val (.int 1), .val (.int 2), .unset, .unset, .unset, .unset, .unset] [(.ref ra1)]))
    refine own_to (fun _ kont => XS.goto X76.here hx rfl (pc0 := 32) (pc' := 38) rfl (hb hby at_32) (by decide) (by decide) kont) ?_
    show own_Ends _ _ _ _ (T76.setTop (mkF m 38 #[.val (.int z1), .val (.int z2), .val (.int 1), .val (.int 2), .unset, .unset, .unset, .unset, .unset] [(.ref ra1)]))
    refine own_to (fun _ kont => XS.astore X76.here hx rfl (hb hby at_38) rfl rfl (l' := #[.val (.int z1), .val (.int z2), .val (.int (1 : Int32)), .val (.int (2 : Int32)), .val (.ref ra1), .unset, .unset, .unset, .unset]) rfl kont) ?_
    show own_Ends _ _ _ _ (T76.setTop (mkF m 40 #[.val (.int z1), .val (.int z2), .val (.int 1), .val (.int 2), .val (.ref ra1), .unset, .unset, .unset, .unset] []))
    refine own_to (fun _ kont => XS.iloadN X76.here hx rfl (hb hby at_40) rfl kont) ?_
    show own_Ends _ _ _ _ (T76.setTop (mkF m 41 #[.val (.int z1), .val (.int z2), .val (.int 1), .val (.int 2), .val (.ref ra1), .unset, .unset, .unset, .unset] [(.int 2)]))
    refine own_to (fun _ kont => XS.ifYes X76.here hx rfl (pc0 := 41) (pc' := 50) rfl (hb hby at_41) rfl ((if0 _ _).trans (feq (by decide)).2) (by decide) (by decide) kont) ?_
    show own_Ends _ _ _ _ (T76.setTop (mkF m 50 #[.val (.int z1), .val (.int z2), .val (.int 1), .val (.int 2), .val (.ref ra1), .unset, .unset, .unset, .unset] []))
    refine own_to (fun _ kont => XS.iloadN X76.here hx rfl (hb hby at_50) rfl kont) ?_
    show own_Ends _ _ _ _ (T76.setTop (mkF m 51 #[.val (.int z1), .val (.int z2), .val (.int 1), .val (.int 2), .val (.ref ra1), .unset, .unset, .unset, .unset] [(.int 2)]))
    refine own_to (fun _ kont => XS.iconst X76.here hx rfl (hb hby at_51) kont) ?_
    show own_Ends _ _ _ _ (T76.setTop (mkF m 52 #[.val (.int z1), .val (.int z2), .val (.int 1), .val (.int 2), .val (.ref ra1), .unset, .unset, .unset, .unset] [(.int 1), (.int 2)]))
    refine own_to (fun _ kont => XS.icmpYes X76.here hx rfl (pc0 := 52) (pc' := 61) rfl (hb hby at_52) rfl (feq (by decide)).2 (by decide) (by decide) kont) ?_
    show own_Ends _ _ _ _ (T76.setTop (mkF m 61 #[.val (.int z1), .val (.int z2), .val (.int 1), .val (.int 2), .val (.ref ra1), .unset, .unset, .unset, .unset] []))
    obtain ⟨T77, X77, e77, st77⟩ := getS2 X76 hx hZ hown (host := "") (Or.inl (ow25 hw)) Via.refl e76 (S_sp2.ext O0.2) (g := (mkF m 61 #[.val (.int z1), .val (.int z2), .val (.int (1 : Int32)), .val (.int (2 : Int32)), .val (.ref ra1), .unset, .unset, .unset, .unset] [])) rfl (hb hby at_61)
    refine own_to st77 ?_
    show own_Ends _ _ _ _ (T77.setTop (mkF m 64 #[.val (.int z1), .val (.int z2), .val (.int 1), .val (.int 2), .val (.ref ra1), .unset, .unset, .unset, .unset] [(.ref sp2)]))
    refine own_to (fun _ kont => XS.astore X77.here hx rfl (hb hby at_64) rfl rfl (l' := #[.val (.int z1), .val (.int z2), .val (.int (1 : Int32)), .val (.int (2 : Int32)), .val (.ref ra1), .val (.ref sp2), .unset, .unset, .unset]) rfl kont) ?_
    show own_Ends _ _ _ _ (T77.setTop (mkF m 66 #[.val (.int z1), .val (.int z2), .val (.int 1), .val (.int 2), .val (.ref ra1), .val (.ref sp2), .unset, .unset, .unset] []))
    refine own_to (fun _ kont => XS.bipush X77.here hx rfl (hb hby at_66) kont) ?_
    show own_Ends _ _ _ _ (T77.setTop (mkF m 68 #[.val (.int z1), .val (.int z2), .val (.int 1), .val (.int 2), .val (.ref ra1), .val (.ref sp2), .unset, .unset, .unset] [(.int 9)]))
    obtain ⟨T78, h78, k78, X78, e78, E78, A78, st78⟩ := newP X77 hx hZ (aty := .boolean) (ow7 hw) e77 (g := (mkF m 68 #[.val (.int z1), .val (.int z2), .val (.int (1 : Int32)), .val (.int (2 : Int32)), .val (.ref ra1), .val (.ref sp2), .unset, .unset, .unset] [(.int (9 : Int32))])) rfl (hb hby at_68) rfl (by decide) (cap := 9) (by decide) (by decide) (by decide) (by decide)
    obtain ⟨b78, g78⟩ : ∃ z, z = h0.size := ⟨_, rfl⟩
    rw [← g78] at A78 st78
    have g_b78 : n0 ≤ b78 := Nat.le_trans (own_old_le O0) (Nat.le_of_eq g78.symm)
    refine own_to st78 ?_
    have O78 := O0.ext E78
    have Vn78 : Arv Z h78 b78 k78 .boolean (9 : Int32) [(.int (0 : Int32)), (.int (0 : Int32)), (.int (0 : Int32)), (.int (0 : Int32)), (.int (0 : Int32)), (.int (0 : Int32)), (.int (0 : Int32)), (.int (0 : Int32)), (.int (0 : Int32))] (.int (0 : Int32)) := (Arv.new A78 (by decide)).pad (pad_rep [] (.int (0 : Int32)) 9)
    show own_Ends _ _ _ _ (T78.setTop (mkF m 70 #[.val (.int z1), .val (.int z2), .val (.int 1), .val (.int 2), .val (.ref ra1), .val (.ref sp2), .unset, .unset, .unset] [(.ref b78)]))
    refine own_to (fun _ kont => XS.dup X78.here hx rfl (hb hby at_70) rfl rfl kont) ?_
    show own_Ends _ _ _ _ (T78.setTop (mkF m 71 #[.val (.int z1), .val (.int z2), .val (.int 1), .val (.int 2), .val (.ref ra1), .val (.ref sp2), .unset, .unset, .unset] [(.ref b78), (.ref b78)]))
    refine own_to (fun _ kont => XS.iconst X78.here hx rfl (hb hby at_71) kont) ?_
    show own_Ends _ _ _ _ (T78.setTop (mkF m 72 #[.val (.int z1), .val (.int z2), .val (.int 1), .val (.int 2), .val (.ref ra1), .val (.ref sp2), .unset, .unset, .unset] [(.int 0), (.ref b78), (.ref b78)]))
    refine own_to (fun _ kont => XS.iconst X78.here hx rfl (hb hby at_72) kont) ?_
    show own_Ends _ _ _ _ (T78.setTop (mkF m 73 #[.val (.int z1), .val (.int z2), .val (.int 1), .val (.int 2), .val (.ref ra1), .val (.ref sp2), .unset, .unset, .unset] [(.int 0), (.int 0), (.ref b78), (.ref b78)]))
    obtain ⟨cl79, Ar79, q79, S79, M79, H79, G79⟩ := Vn78
    have hin79 : ¬ ((0 : Int32) < 0 ∨ cl79.slots.size ≤ ((0 : Int32)).toNatClampNeg) := inb_of S79 ⟨by decide, by decide⟩
    obtain ⟨T79, h79, X79, e79, W79, st79⟩ := stZ X78 hx hZ e78 Ar79 (j := (0 : Int32)) hin79 (g := (mkF m 73 #[.val (.int z1), .val (.int z2), .val (.int (1 : Int32)), .val (.int (2 : Int32)), .val (.ref ra1), .val (.ref sp2), .unset, .unset, .unset] [(.int (0 : Int32)), (.int (0 : Int32)), (.ref b78), (.ref b78)])) rfl rfl (hb hby at_73)
    have Vs79 : Arv Z h79 b78 k78 .boolean (9 : Int32) [(.int (0 : Int32)), (.int (0 : Int32)), (.int (0 : Int32)), (.int (0 : Int32)), (.int (0 : Int32)), (.int (0 : Int32)), (.int (0 : Int32)), (.int (0 : Int32)), (.int (0 : Int32))] (.int (0 : Int32)) := Arv.set Ar79 q79 S79 M79 H79 G79 (fits_nar_bool _) W79 0 rfl (own_lt rfl)
    refine own_to st79 ?_
    have O79 := O78.wr W79 g_b78
    have N79 := Fr.snoc X79 N0 g_b78
    show own_Ends _ _ _ _ (T79.setTop (mkF m 74 #[.val (.int z1), .val (.int z2), .val (.int 1), .val (.int 2), .val (.ref ra1), .val (.ref sp2), .unset, .unset, .unset] [(.ref b78)]))
    refine own_to (fun _ kont => XS.dup X79.here hx rfl (hb hby at_74) rfl rfl kont) ?_
    show own_Ends _ _ _ _ (T79.setTop (mkF m 75 #[.val (.int z1), .val (.int z2), .val (.int 1), .val (.int 2), .val (.ref ra1), .val (.ref sp2), .unset, .unset, .unset] [(.ref b78), (.ref b78)]))
    refine own_to (fun _ kont => XS.iconst X79.here hx rfl (hb hby at_75) kont) ?_
    show own_Ends _ _ _ _ (T79.setTop (mkF m 76 #[.val (.int z1), .val (.int z2), .val (.int 1), .val (.int 2), .val (.ref ra1), .val (.ref sp2), .unset, .unset, .unset] [(.int 1), (.ref b78), (.ref b78)]))
    refine own_to (fun _ kont => XS.iconst X79.here hx rfl (hb hby at_76) kont) ?_
    show own_Ends _ _ _ _ (T79.setTop (mkF m 77 #[.val (.int z1), .val (.int z2), .val (.int 1), .val (.int 2), .val (.ref ra1), .val (.ref sp2), .unset, .unset, .unset] [(.int 1), (.int 1), (.ref b78), (.ref b78)]))
    obtain ⟨cl80, Ar80, q80, S80, M80, H80, G80⟩ := Vs79
    have hin80 : ¬ ((1 : Int32) < 0 ∨ cl80.slots.size ≤ ((1 : Int32)).toNatClampNeg) := inb_of S80 ⟨by decide, by decide⟩
    obtain ⟨T80, h80, X80, e80, W80, st80⟩ := stZ X79 hx hZ e79 Ar80 (j := (1 : Int32)) hin80 (g := (mkF m 77 #[.val (.int z1), .val (.int z2), .val (.int (1 : Int32)), .val (.int (2 : Int32)), .val (.ref ra1), .val (.ref sp2), .unset, .unset, .unset] [(.int (1 : Int32)), (.int (1 : Int32)), (.ref b78), (.ref b78)])) rfl rfl (hb hby at_77)
    have Vs80 : Arv Z h80 b78 k78 .boolean (9 : Int32) [(.int (0 : Int32)), (.int (1 : Int32)), (.int (0 : Int32)), (.int (0 : Int32)), (.int (0 : Int32)), (.int (0 : Int32)), (.int (0 : Int32)), (.int (0 : Int32)), (.int (0 : Int32))] (.int (0 : Int32)) := Arv.set Ar80 q80 S80 M80 H80 G80 (fits_nar_bool _) W80 1 rfl (own_lt rfl)
    refine own_to st80 ?_
    have O80 := O79.wr W80 g_b78
    have N80 := Fr.snoc X80 N79 g_b78
    show own_Ends _ _ _ _ (T80.setTop (mkF m 78 #[.val (.int z1), .val (.int z2), .val (.int 1), .val (.int 2), .val (.ref ra1), .val (.ref sp2), .unset, .unset, .unset] [(.ref b78)]))
    refine own_to (fun _ kont => XS.dup X80.here hx rfl (hb hby at_78) rfl rfl kont) ?_
    show own_Ends _ _ _ _ (T80.setTop (mkF m 79 #[.val (.int z1), .val (.int z2), .val (.int 1), .val (.int 2), .val (.ref ra1), .val (.ref sp2), .unset, .unset, .unset] [(.ref b78), (.ref b78)]))
    refine own_to (fun _ kont => XS.iconst X80.here hx rfl (hb hby at_79) kont) ?_
    show own_Ends _ _ _ _ (T80.setTop (mkF m 80 #[.val (.int z1), .val (.int z2), .val (.int 1), .val (.int 2), .val (.ref ra1), .val (.ref sp2), .unset, .unset, .unset] [(.int 2), (.ref b78), (.ref b78)]))
    refine own_to (fun _ kont => XS.iconst X80.here hx rfl (hb hby at_80) kont) ?_
    show own_Ends _ _ _ _ (T80.setTop (mkF m 81 #[.val (.int z1), .val (.int z2), .val (.int 1), .val (.int 2), .val (.ref ra1), .val (.ref sp2), .unset, .unset, .unset] [(.int 0), (.int 2), (.ref b78), (.ref b78)]))
    obtain ⟨cl81, Ar81, q81, S81, M81, H81, G81⟩ := Vs80
    have hin81 : ¬ ((2 : Int32) < 0 ∨ cl81.slots.size ≤ ((2 : Int32)).toNatClampNeg) := inb_of S81 ⟨by decide, by decide⟩
    obtain ⟨T81, h81, X81, e81, W81, st81⟩ := stZ X80 hx hZ e80 Ar81 (j := (2 : Int32)) hin81 (g := (mkF m 81 #[.val (.int z1), .val (.int z2), .val (.int (1 : Int32)), .val (.int (2 : Int32)), .val (.ref ra1), .val (.ref sp2), .unset, .unset, .unset] [(.int (0 : Int32)), (.int (2 : Int32)), (.ref b78), (.ref b78)])) rfl rfl (hb hby at_81)
    have Vs81 : Arv Z h81 b78 k78 .boolean (9 : Int32) [(.int (0 : Int32)), (.int (1 : Int32)), (.int (0 : Int32)), (.int (0 : Int32)), (.int (0 : Int32)), (.int (0 : Int32)), (.int (0 : Int32)), (.int (0 : Int32)), (.int (0 : Int32))] (.int (0 : Int32)) := Arv.set Ar81 q81 S81 M81 H81 G81 (fits_nar_bool _) W81 2 rfl (own_lt rfl)
    refine own_to st81 ?_
    have O81 := O80.wr W81 g_b78
    have N81 := Fr.snoc X81 N80 g_b78
    show own_Ends _ _ _ _ (T81.setTop (mkF m 82 #[.val (.int z1), .val (.int z2), .val (.int 1), .val (.int 2), .val (.ref ra1), .val (.ref sp2), .unset, .unset, .unset] [(.ref b78)]))
    refine own_to (fun _ kont => XS.dup X81.here hx rfl (hb hby at_82) rfl rfl kont) ?_
    show own_Ends _ _ _ _ (T81.setTop (mkF m 83 #[.val (.int z1), .val (.int z2), .val (.int 1), .val (.int 2), .val (.ref ra1), .val (.ref sp2), .unset, .unset, .unset] [(.ref b78), (.ref b78)]))
    refine own_to (fun _ kont => XS.iconst X81.here hx rfl (hb hby at_83) kont) ?_
    show own_Ends _ _ _ _ (T81.setTop (mkF m 84 #[.val (.int z1), .val (.int z2), .val (.int 1), .val (.int 2), .val (.ref ra1), .val (.ref sp2), .unset, .unset, .unset] [(.int 3), (.ref b78), (.ref b78)]))
    refine own_to (fun _ kont => XS.iconst X81.here hx rfl (hb hby at_84) kont) ?_
    show own_Ends _ _ _ _ (T81.setTop (mkF m 85 #[.val (.int z1), .val (.int z2), .val (.int 1), .val (.int 2), .val (.ref ra1), .val (.ref sp2), .unset, .unset, .unset] [(.int 1), (.int 3), (.ref b78), (.ref b78)]))
    obtain ⟨cl82, Ar82, q82, S82, M82, H82, G82⟩ := Vs81
    have hin82 : ¬ ((3 : Int32) < 0 ∨ cl82.slots.size ≤ ((3 : Int32)).toNatClampNeg) := inb_of S82 ⟨by decide, by decide⟩
    obtain ⟨T82, h82, X82, e82, W82, st82⟩ := stZ X81 hx hZ e81 Ar82 (j := (3 : Int32)) hin82 (g := (mkF m 85 #[.val (.int z1), .val (.int z2), .val (.int (1 : Int32)), .val (.int (2 : Int32)), .val (.ref ra1), .val (.ref sp2), .unset, .unset, .unset] [(.int (1 : Int32)), (.int (3 : Int32)), (.ref b78), (.ref b78)])) rfl rfl (hb hby at_85)
    have Vs82 : Arv Z h82 b78 k78 .boolean (9 : Int32) [(.int (0 : Int32)), (.int (1 : Int32)), (.int (0 : Int32)), (.int (1 : Int32)), (.int (0 : Int32)), (.int (0 : Int32)), (.int (0 : Int32)), (.int (0 : Int32)), (.int (0 : Int32))] (.int (0 : Int32)) := Arv.set Ar82 q82 S82 M82 H82 G82 (fits_nar_bool _) W82 3 rfl (own_lt rfl)
    refine own_to st82 ?_
    have O82 := O81.wr W82 g_b78
    have N82 := Fr.snoc X82 N81 g_b78
    show own_Ends _ _ _ _ (T82.setTop (mkF m 86 #[.val (.int z1), .val (.int z2), .val (.int 1), .val (.int 2), .val (.ref ra1), .val (.ref sp2), .unset, .unset, .unset] [(.ref b78)]))
    refine own_to (fun _ kont => XS.dup X82.here hx rfl (hb hby at_86) rfl rfl kont) ?_
    show own_Ends _ _ _ _ (T82.setTop (mkF m 87 #[.val (.int z1), .val (.int z2), .val (.int 1), .val (.int 2), .val (.ref ra1), .val (.ref sp2), .unset, .unset, .unset] [(.ref b78), (.ref b78)]))
    refine own_to (fun _ kont => XS.iconst X82.here hx rfl (hb hby at_87) kont) ?_
    show own_Ends _ _ _ _ (T82.setTop (mkF m 88 #[.val (.int z1), .val (.int z2), .val (.int 1), .val (.int 2), .val (.ref ra1), .val (.ref sp2), .unset, .unset, .unset] [(.int 4), (.ref b78), (.ref b78)]))
    refine own_to (fun _ kont => XS.iconst X82.here hx rfl (hb hby at_88) kont) ?_
    show own_Ends _ _ _ _ (T82.setTop (mkF m 89 #[.val (.int z1), .val (.int z2), .val (.int 1), .val (.int 2), .val (.ref ra1), .val (.ref sp2), .unset, .unset, .unset] [(.int 1), (.int 4), (.ref b78), (.ref b78)]))
    obtain ⟨cl83, Ar83, q83, S83, M83, H83, G83⟩ := Vs82
    have hin83 : ¬ ((4 : Int32) < 0 ∨ cl83.slots.size ≤ ((4 : Int32)).toNatClampNeg) := inb_of S83 ⟨by decide, by decide⟩
    obtain ⟨T83, h83, X83, e83, W83, st83⟩ := stZ X82 hx hZ e82 Ar83 (j := (4 : Int32)) hin83 (g := (mkF m 89 #[.val (.int z1), .val (.int z2), .val (.int (1 : Int32)), .val (.int (2 : Int32)), .val (.ref ra1), .val (.ref sp2), .unset, .unset, .unset] [(.int (1 : Int32)), (.int (4 : Int32)), (.ref b78), (.ref b78)])) rfl rfl (hb hby at_89)
    have Vs83 : Arv Z h83 b78 k78 .boolean (9 : Int32) [(.int (0 : Int32)), (.int (1 : Int32)), (.int (0 : Int32)), (.int (1 : Int32)), (.int (1 : Int32)), (.int (0 : Int32)), (.int (0 : Int32)), (.int (0 : Int32)), (.int (0 : Int32))] (.int (0 : Int32)) := Arv.set Ar83 q83 S83 M83 H83 G83 (fits_nar_bool _) W83 4 rfl (own_lt rfl)
    refine own_to st83 ?_
    have O83 := O82.wr W83 g_b78
    have N83 := Fr.snoc X83 N82 g_b78
    show own_Ends _ _ _ _ (T83.setTop (mkF m 90 #[.val (.int z1), .val (.int z2), .val (.int 1), .val (.int 2), .val (.ref ra1), .val (.ref sp2), .unset, .unset, .unset] [(.ref b78)]))
    refine own_to (fun _ kont => XS.dup X83.here hx rfl (hb hby at_90) rfl rfl kont) ?_
    show own_Ends _ _ _ _ (T83.setTop (mkF m 91 #[.val (.int z1), .val (.int z2), .val (.int 1), .val (.int 2), .val (.ref ra1), .val (.ref sp2), .unset, .unset, .unset] [(.ref b78), (.ref b78)]))
    refine own_to (fun _ kont => XS.iconst X83.here hx rfl (hb hby at_91) kont) ?_
    show own_Ends _ _ _ _ (T83.setTop (mkF m 92 #[.val (.int z1), .val (.int z2), .val (.int 1), .val (.int 2), .val (.ref ra1), .val (.ref sp2), .unset, .unset, .unset] [(.int 5), (.ref b78), (.ref b78)]))
    refine own_to (fun _ kont => XS.iconst X83.here hx rfl (hb hby at_92) kont) ?_
    show own_Ends _ _ _ _ (T83.setTop (mkF m 93 #[.val (.int z1), .val (.int z2), .val (.int 1), .val (.int 2), .val (.ref ra1), .val (.ref sp2), .unset, .unset, .unset] [(.int 1), (.int 5), (.ref b78), (.ref b78)]))
    obtain ⟨cl84, Ar84, q84, S84, M84, H84, G84⟩ := Vs83
    have hin84 : ¬ ((5 : Int32) < 0 ∨ cl84.slots.size ≤ ((5 : Int32)).toNatClampNeg) := inb_of S84 ⟨by decide, by decide⟩
    obtain ⟨T84, h84, X84, e84, W84, st84⟩ := stZ X83 hx hZ e83 Ar84 (j := (5 : Int32)) hin84 (g := (mkF m 93 #[.val (.int z1), .val (.int z2), .val (.int (1 : Int32)), .val (.int (2 : Int32)), .val (.ref ra1), .val (.ref sp2), .unset, .unset, .unset] [(.int (1 : Int32)), (.int (5 : Int32)), (.ref b78), (.ref b78)])) rfl rfl (hb hby at_93)
    have Vs84 : Arv Z h84 b78 k78 .boolean (9 : Int32) [(.int (0 : Int32)), (.int (1 : Int32)), (.int (0 : Int32)), (.int (1 : Int32)), (.int (1 : Int32)), (.int (1 : Int32)), (.int (0 : Int32)), (.int (0 : Int32)), (.int (0 : Int32))] (.int (0 : Int32)) := Arv.set Ar84 q84 S84 M84 H84 G84 (fits_nar_bool _) W84 5 rfl (own_lt rfl)
    refine own_to st84 ?_
    have O84 := O83.wr W84 g_b78
    have N84 := Fr.snoc X84 N83 g_b78
    show own_Ends _ _ _ _ (T84.setTop (mkF m 94 #[.val (.int z1), .val (.int z2), .val (.int 1), .val (.int 2), .val (.ref ra1), .val (.ref sp2), .unset, .unset, .unset] [(.ref b78)]))
    refine own_to (fun _ kont => XS.dup X84.here hx rfl (hb hby at_94) rfl rfl kont) ?_
    show own_Ends _ _ _ _ (T84.setTop (mkF m 95 #[.val (.int z1), .val (.int z2), .val (.int 1), .val (.int 2), .val (.ref ra1), .val (.ref sp2), .unset, .unset, .unset] [(.ref b78), (.ref b78)]))
    refine own_to (fun _ kont => XS.bipush X84.here hx rfl (hb hby at_95) kont) ?_
    show own_Ends _ _ _ _ (T84.setTop (mkF m 97 #[.val (.int z1), .val (.int z2), .val (.int 1), .val (.int 2), .val (.ref ra1), .val (.ref sp2), .unset, .unset, .unset] [(.int 6), (.ref b78), (.ref b78)]))
    refine own_to (fun _ kont => XS.iconst X84.here hx rfl (hb hby at_97) kont) ?_
    show own_Ends _ _ _ _ (T84.setTop (mkF m 98 #[.val (.int z1), .val (.int z2), .val (.int 1), .val (.int 2), .val (.ref ra1), .val (.ref sp2), .unset, .unset, .unset] [(.int 0), (.int 6), (.ref b78), (.ref b78)]))
    obtain ⟨cl85, Ar85, q85, S85, M85, H85, G85⟩ := Vs84
    have hin85 : ¬ ((6 : Int32) < 0 ∨ cl85.slots.size ≤ ((6 : Int32)).toNatClampNeg) := inb_of S85 ⟨by decide, by decide⟩
    obtain ⟨T85, h85, X85, e85, W85, st85⟩ := stZ X84 hx hZ e84 Ar85 (j := (6 : Int32)) hin85 (g := (mkF m 98 #[.val (.int z1), .val (.int z2), .val (.int (1 : Int32)), .val (.int (2 : Int32)), .val (.ref ra1), .val (.ref sp2), .unset, .unset, .unset] [(.int (0 : Int32)), (.int (6 : Int32)), (.ref b78), (.ref b78)])) rfl rfl (hb hby at_98)
    have Vs85 : Arv Z h85 b78 k78 .boolean (9 : Int32) [(.int (0 : Int32)), (.int (1 : Int32)), (.int (0 : Int32)), (.int (1 : Int32)), (.int (1 : Int32)), (.int (1 : Int32)), (.int (0 : Int32)), (.int (0 : Int32)), (.int (0 : Int32))] (.int (0 : Int32)) := Arv.set Ar85 q85 S85 M85 H85 G85 (fits_nar_bool _) W85 6 rfl (own_lt rfl)
    refine own_to st85 ?_
    have O85 := O84.wr W85 g_b78
    have N85 := Fr.snoc X85 N84 g_b78
    show own_Ends _ _ _ _ (T85.setTop (mkF m 99 #[.val (.int z1), .val (.int z2), .val (.int 1), .val (.int 2), .val (.ref ra1), .val (.ref sp2), .unset, .unset, .unset] [(.ref b78)]))
    refine own_to (fun _ kont => XS.dup X85.here hx rfl (hb hby at_99) rfl rfl kont) ?_
    show own_Ends _ _ _ _ (T85.setTop (mkF m 100 #[.val (.int z1), .val (.int z2), .val (.int 1), .val (.int 2), .val (.ref ra1), .val (.ref sp2), .unset, .unset, .unset] [(.ref b78), (.ref b78)]))
    refine own_to (fun _ kont => XS.bipush X85.here hx rfl (hb hby at_100) kont) ?_
    show own_Ends _ _ _ _ (T85.setTop (mkF m 102 #[.val (.int z1), .val (.int z2), .val (.int 1), .val (.int 2), .val (.ref ra1), .val (.ref sp2), .unset, .unset, .unset] [(.int 7), (.ref b78), (.ref b78)]))
    refine own_to (fun _ kont => XS.iconst X85.here hx rfl (hb hby at_102) kont) ?_
    show own_Ends _ _ _ _ (T85.setTop (mkF m 103 #[.val (.int z1), .val (.int z2), .val (.int 1), .val (.int 2), .val (.ref ra1), .val (.ref sp2), .unset, .unset, .unset] [(.int 1), (.int 7), (.ref b78), (.ref b78)]))
    obtain ⟨cl86, Ar86, q86, S86, M86, H86, G86⟩ := Vs85
    have hin86 : ¬ ((7 : Int32) < 0 ∨ cl86.slots.size ≤ ((7 : Int32)).toNatClampNeg) := inb_of S86 ⟨by decide, by decide⟩
    obtain ⟨T86, h86, X86, e86, W86, st86⟩ := stZ X85 hx hZ e85 Ar86 (j := (7 : Int32)) hin86 (g := (mkF m 103 #[.val (.int z1), .val (.int z2), .val (.int (1 : Int32)), .val (.int (2 : Int32)), .val (.ref ra1), .val (.ref sp2), .unset, .unset, .unset] [(.int (1 : Int32)), (.int (7 : Int32)), (.ref b78), (.ref b78)])) rfl rfl (hb hby at_103)
    have Vs86 : Arv Z h86 b78 k78 .boolean (9 : Int32) [(.int (0 : Int32)), (.int (1 : Int32)), (.int (0 : Int32)), (.int (1 : Int32)), (.int (1 : Int32)), (.int (1 : Int32)), (.int (0 : Int32)), (.int (1 : Int32)), (.int (0 : Int32))] (.int (0 : Int32)) := Arv.set Ar86 q86 S86 M86 H86 G86 (fits_nar_bool _) W86 7 rfl (own_lt rfl)
    refine own_to st86 ?_
    have O86 := O85.wr W86 g_b78
    have N86 := Fr.snoc X86 N85 g_b78
    show own_Ends _ _ _ _ (T86.setTop (mkF m 104 #[.val (.int z1), .val (.int z2), .val (.int 1), .val (.int 2), .val (.ref ra1), .val (.ref sp2), .unset, .unset, .unset] [(.ref b78)]))
    refine own_to (fun _ kont => XS.dup X86.here hx rfl (hb hby at_104) rfl rfl kont) ?_
    show own_Ends _ _ _ _ (T86.setTop (mkF m 105 #[.val (.int z1), .val (.int z2), .val (.int 1), .val (.int 2), .val (.ref ra1), .val (.ref sp2), .unset, .unset, .unset] [(.ref b78), (.ref b78)]))
    refine own_to (fun _ kont => XS.bipush X86.here hx rfl (hb hby at_105) kont) ?_
    show own_Ends _ _ _ _ (T86.setTop (mkF m 107 #[.val (.int z1), .val (.int z2), .val (.int 1), .val (.int 2), .val (.ref ra1), .val (.ref sp2), .unset, .unset, .unset] [(.int 8), (.ref b78), (.ref b78)]))
    refine own_to (fun _ kont => XS.iconst X86.here hx rfl (hb hby at_107) kont) ?_
    show own_Ends _ _ _ _ (T86.setTop (mkF m 108 #[.val (.int z1), .val (.int z2), .val (.int 1), .val (.int 2), .val (.ref ra1), .val (.ref sp2), .unset, .unset, .unset] [(.int 0), (.int 8), (.ref b78), (.ref b78)]))
    obtain ⟨cl87, Ar87, q87, S87, M87, H87, G87⟩ := Vs86
    have hin87 : ¬ ((8 : Int32) < 0 ∨ cl87.slots.size ≤ ((8 : Int32)).toNatClampNeg) := inb_of S87 ⟨by decide, by decide⟩
    obtain ⟨T87, h87, X87, e87, W87, st87⟩ := stZ X86 hx hZ e86 Ar87 (j := (8 : Int32)) hin87 (g := (mkF m 108 #[.val (.int z1), .val (.int z2), .val (.int (1 : Int32)), .val (.int (2 : Int32)), .val (.ref ra1), .val (.ref sp2), .unset, .unset, .unset] [(.int (0 : Int32)), (.int (8 : Int32)), (.ref b78), (.ref b78)])) rfl rfl (hb hby at_108)
    have Vs87 : Arv Z h87 b78 k78 .boolean (9 : Int32) [(.int (0 : Int32)), (.int (1 : Int32)), (.int (0 : Int32)), (.int (1 : Int32)), (.int (1 : Int32)), (.int (1 : Int32)), (.int (0 : Int32)), (.int (1 : Int32)), (.int (0 : Int32))] (.int (0 : Int32)) := Arv.set Ar87 q87 S87 M87 H87 G87 (fits_nar_bool _) W87 8 rfl (own_lt rfl)
    refine own_to st87 ?_
    have O87 := O86.wr W87 g_b78
    have N87 := Fr.snoc X87 N86 g_b78
    show own_Ends _ _ _ _ (T87.setTop (mkF m 109 #[.val (.int z1), .val (.int z2), .val (.int 1), .val (.int 2), .val (.ref ra1), .val (.ref sp2), .unset, .unset, .unset] [(.ref b78)]))
    refine own_to (fun _ kont => XS.astore X87.here hx rfl (hb hby at_109) rfl rfl (l' := #[.val (.int z1), .val (.int z2), .val (.int (1 : Int32)), .val (.int (2 : Int32)), .val (.ref ra1), .val (.ref sp2), .val (.ref b78), .unset, .unset]) rfl kont) ?_
    show own_Ends _ _ _ _ (T87.setTop (mkF m 111 #[.val (.int z1), .val (.int z2), .val (.int 1), .val (.int 2), .val (.ref ra1), .val (.ref sp2), .val (.ref b78), .unset, .unset] []))
    refine own_to (fun _ kont => XS.aload X87.here hx rfl (hb hby at_111) rfl rfl kont) ?_
    show own_Ends _ _ _ _ (T87.setTop (mkF m 113 #[.val (.int z1), .val (.int z2), .val (.int 1), .val (.int 2), .val (.ref ra1), .val (.ref sp2), .val (.ref b78), .unset, .unset] [(.ref b78)]))
    refine own_to (fun _ kont => XS.iloadN X87.here hx rfl (hb hby at_113) rfl kont) ?_
    show own_Ends _ _ _ _ (T87.setTop (mkF m 114 #[.val (.int z1), .val (.int z2), .val (.int 1), .val (.int 2), .val (.ref ra1), .val (.ref sp2), .val (.ref b78), .unset, .unset] [(.int 1), (.ref b78)]))
    refine own_to (fun _ kont => XS.iconst X87.here hx rfl (hb hby at_114) kont) ?_
    show own_Ends _ _ _ _ (T87.setTop (mkF m 115 #[.val (.int z1), .val (.int z2), .val (.int 1), .val (.int 2), .val (.ref ra1), .val (.ref sp2), .val (.ref b78), .unset, .unset] [(.int 3), (.int 1), (.ref b78)]))
    refine own_to (fun _ kont => XS.imul X87.here hx rfl (hb hby at_115) rfl kont) ?_
    show own_Ends _ _ _ _ (T87.setTop (mkF m 116 #[.val (.int z1), .val (.int z2), .val (.int 1), .val (.int 2), .val (.ref ra1), .val (.ref sp2), .val (.ref b78), .unset, .unset] [(.int 3), (.ref b78)]))
    refine own_to (fun _ kont => XS.iloadN X87.here hx rfl (hb hby at_116) rfl kont) ?_
    show own_Ends _ _ _ _ (T87.setTop (mkF m 117 #[.val (.int z1), .val (.int z2), .val (.int 1), .val (.int 2), .val (.ref ra1), .val (.ref sp2), .val (.ref b78), .unset, .unset] [(.int 2), (.int 3), (.ref b78)]))
    refine own_to (fun _ kont => XS.iadd X87.here hx rfl (hb hby at_117) rfl kont) ?_
    show own_Ends _ _ _ _ (T87.setTop (mkF m 118 #[.val (.int z1), .val (.int z2), .val (.int 1), .val (.int 2), .val (.ref ra1), .val (.ref sp2), .val (.ref b78), .unset, .unset] [(.int 5), (.ref b78)]))
    obtain ⟨cl88, Ar88, q88, S88, M88, H88, G88⟩ := Vs87
    have hin88 : ¬ ((5 : Int32) < 0 ∨ cl88.slots.size ≤ ((5 : Int32)).toNatClampNeg) := inb_of S88 ⟨by decide, by decide⟩
    have hat88 : cl88.slots[((5 : Int32)).toNatClampNeg]? = some (.int (1 : Int32)) := Has.at H88 hin88 rfl
    refine own_to (fun _ kont => X87.baloadBooleans hx (j := (5 : Int32)) (v := (.int (1 : Int32))) (by rw [e87]; exact Ar88.1) (State.isArrayOf_alike hZ.alike Ar88.2.1) Ar88.2.2 hin88 hat88 (g := (mkF m 118 #[.val (.int z1), .val (.int z2), .val (.int (1 : Int32)), .val (.int (2 : Int32)), .val (.ref ra1), .val (.ref sp2), .val (.ref b78), .unset, .unset] [(.int (5 : Int32)), (.ref b78)])) rfl rfl (hb hby at_118) _ kont) ?_
    show own_Ends _ _ _ _ (T87.setTop (mkF m 119 #[.val (.int z1), .val (.int z2), .val (.int 1), .val (.int 2), .val (.ref ra1), .val (.ref sp2), .val (.ref b78), .unset, .unset] [(.int 1)]))
    refine own_to (fun _ kont => XS.ifNo X87.here hx rfl (hb hby at_119) rfl ((if0 _ _).trans (feq (by decide)).1) kont) ?_
    show own_Ends _ _ _ _ (T87.setTop (mkF m 122 #[.val (.int z1), .val (.int z2), .val (.int 1), .val (.int 2), .val (.ref ra1), .val (.ref sp2), .val (.ref b78), .unset, .unset] []))
    obtain ⟨T89, X89, e89, st89⟩ := getS2 X87 hx hZ hown (host := "") (Or.inl (ow22 hw)) Via.refl e87 (S_el1.ext O87.2) (g := (mkF m 122 #[.val (.int z1), .val (.int z2), .val (.int (1 : Int32)), .val (.int (2 : Int32)), .val (.ref ra1), .val (.ref sp2), .val (.ref b78), .unset, .unset] [])) rfl (hb hby at_122)
    refine own_to st89 ?_
    show own_Ends _ _ _ _ (T89.setTop (mkF m 125 #[.val (.int z1), .val (.int z2), .val (.int 1), .val (.int 2), .val (.ref ra1), .val (.ref sp2), .val (.ref b78), .unset, .unset] [(.ref el1)]))
    refine own_to (fun _ kont => XS.goto X89.here hx rfl (pc0 := 125) (pc' := 131) rfl (hb hby at_125) (by decide) (by decide) kont) ?_
    show own_Ends _ _ _ _ (T89.setTop (mkF m 131 #[.val (.int z1), .val (.int z2), .val (.int 1), .val (.int 2), .val (.ref ra1), .val (.ref sp2), .val (.ref b78), .unset, .unset] [(.ref el1)]))
    refine own_to (fun _ kont => XS.astore X89.here hx rfl (hb hby at_131) rfl rfl (l' := #[.val (.int z1), .val (.int z2), .val (.int (1 : Int32)), .val (.int (2 : Int32)), .val (.ref ra1), .val (.ref sp2), .val (.ref b78), .val (.ref el1), .unset]) rfl kont) ?_
    show own_Ends _ _ _ _ (T89.setTop (mkF m 133 #[.val (.int z1), .val (.int z2), .val (.int 1), .val (.int 2), .val (.ref ra1), .val (.ref sp2), .val (.ref b78), .val (.ref el1), .unset] []))
    refine own_to (fun _ kont => XS.aload X89.here hx rfl (hb hby at_133) rfl rfl kont) ?_
    show own_Ends _ _ _ _ (T89.setTop (mkF m 135 #[.val (.int z1), .val (.int z2), .val (.int 1), .val (.int 2), .val (.ref ra1), .val (.ref sp2), .val (.ref b78), .val (.ref el1), .unset] [(.ref ra1)]))
    refine own_to (fun _ kont => XS.aload X89.here hx rfl (hb hby at_135) rfl rfl kont) ?_
    show own_Ends _ _ _ _ (T89.setTop (mkF m 137 #[.val (.int z1), .val (.int z2), .val (.int 1), .val (.int 2), .val (.ref ra1), .val (.ref sp2), .val (.ref b78), .val (.ref el1), .unset] [(.ref sp2), (.ref ra1)]))
    obtain ⟨_, _, ⟨T90, L90, k90, n90⟩, -, X90, ⟨Lc90, hQ90, l90, y90, z90⟩, st90⟩ := Jvm.LawKit.callS X89 hx (y := oM0) hown (mvT hZ (ow11 hw)) (mvT hZ (ow12 hw)) (mvT hZ (ow9 hw)) (mvT hZ (ow13 hw)) (by decide) (backOf (W := 0) (rm1 l Z a0 hw [] ra1 sp2 ra1 sp1 el1 el0 h87 n0 O87 S_ra1 S_sp1 S_el1 S_el0) hZ (ow13 hw) (ow9 hw) (by decide) (by decide)) (g := (mkF m 137 #[.val (.int z1), .val (.int z2), .val (.int (1 : Int32)), .val (.int (2 : Int32)), .val (.ref ra1), .val (.ref sp2), .val (.ref b78), .val (.ref el1), .unset] [(.ref sp2), (.ref ra1)])) rfl (by rw [hml]; rfl) (argsL := [(.ref ra1), (.ref sp2)]) (rest := []) (lenOf pd_0 rfl) rfl (by show 2 * 0 + _ ≤ _; exact Nat.le_of_eq rfl) (hb hby at_137) (fun _ _ => ⟨rfl, e89, (own_le rfl), (own_le rfl)⟩)
    dsimp only [Pt.U, Pt.locs, Pt.cells, Pt.slots] at X90 l90 y90 z90 st90 hQ90
    subst l90 y90 z90
    obtain ⟨hv90, N90q, E90⟩ := hQ90
    rw [own_of1] at hv90
    subst hv90
    have N90 := Fr.app N87 N90q
    refine own_to st90 ?_
    show own_Ends _ _ _ _ (T90.setTop (mkF m 140 #[.val (.int z1), .val (.int z2), .val (.int 1), .val (.int 2), .val (.ref ra1), .val (.ref sp2), .val (.ref b78), .val (.ref el1), .unset] [(.ref el1)]))
    refine own_to (fun _ kont => XS.astore X90.here hx rfl (hb hby at_140) rfl rfl (l' := #[.val (.int z1), .val (.int z2), .val (.int (1 : Int32)), .val (.int (2 : Int32)), .val (.ref ra1), .val (.ref sp2), .val (.ref b78), .val (.ref el1), .val (.ref el1)]) rfl kont) ?_
    show own_Ends _ _ _ _ (T90.setTop (mkF m 142 #[.val (.int z1), .val (.int z2), .val (.int 1), .val (.int 2), .val (.ref ra1), .val (.ref sp2), .val (.ref b78), .val (.ref el1), .val (.ref el1)] []))
    refine own_to (fun _ kont => XS.aload X90.here hx rfl (hb hby at_142) rfl rfl kont) ?_
    show own_Ends _ _ _ _ (T90.setTop (mkF m 144 #[.val (.int z1), .val (.int z2), .val (.int 1), .val (.int 2), .val (.ref ra1), .val (.ref sp2), .val (.ref b78), .val (.ref el1), .val (.ref el1)] [(.ref el1)]))
    refine own_to (fun _ kont => XS.ifnullNo X90.here hx rfl (hb hby at_144) rfl kont) ?_
    show own_Ends _ _ _ _ (T90.setTop (mkF m 147 #[.val (.int z1), .val (.int z2), .val (.int 1), .val (.int 2), .val (.ref ra1), .val (.ref sp2), .val (.ref b78), .val (.ref el1), .val (.ref el1)] []))
    refine own_to (fun _ kont => XS.aload X90.here hx rfl (hb hby at_147) rfl rfl kont) ?_
    show own_Ends _ _ _ _ (T90.setTop (mkF m 149 #[.val (.int z1), .val (.int z2), .val (.int 1), .val (.int 2), .val (.ref ra1), .val (.ref sp2), .val (.ref b78), .val (.ref el1), .val (.ref el1)] [(.ref el1)]))
    refine own_to (fun _ kont => XS.aload X90.here hx rfl (hb hby at_149) rfl rfl kont) ?_
    show own_Ends _ _ _ _ (T90.setTop (mkF m 151 #[.val (.int z1), .val (.int z2), .val (.int 1), .val (.int 2), .val (.ref ra1), .val (.ref sp2), .val (.ref b78), .val (.ref el1), .val (.ref el1)] [(.ref el1), (.ref el1)]))
    refine own_to (fun _ kont => Jvm.RoadKit.acmp (g := (mkF m 151 #[.val (.int z1), .val (.int z2), .val (.int (1 : Int32)), .val (.int (2 : Int32)), .val (.ref ra1), .val (.ref sp2), .val (.ref b78), .val (.ref el1), .val (.ref el1)] [(.ref el1), (.ref el1)])) X90 hx rfl rfl rfl (pc0 := 151) (pc' := 154) (same := true) rfl (hb hby at_151) rfl (decide_eq_true rfl) (by decide) (by decide) kont) ?_
    show own_Ends _ _ _ _ (T90.setTop (mkF m 154 #[.val (.int z1), .val (.int z2), .val (.int 1), .val (.int 2), .val (.ref ra1), .val (.ref sp2), .val (.ref b78), .val (.ref el1), .val (.ref el1)] []))
    refine own_to (fun _ kont => XS.iconst X90.here hx rfl (hb hby at_154) kont) ?_
    show own_Ends _ _ _ _ (T90.setTop (mkF m 155 #[.val (.int z1), .val (.int z2), .val (.int 1), .val (.int 2), .val (.ref ra1), .val (.ref sp2), .val (.ref b78), .val (.ref el1), .val (.ref el1)] [(.int 1)]))
    refine own_to (fun _ kont => XS.goto X90.here hx rfl (pc0 := 155) (pc' := 159) rfl (hb hby at_155) (by decide) (by decide) kont) ?_
    show own_Ends _ _ _ _ (T90.setTop (mkF m 159 #[.val (.int z1), .val (.int z2), .val (.int 1), .val (.int 2), .val (.ref ra1), .val (.ref sp2), .val (.ref b78), .val (.ref el1), .val (.ref el1)] [(.int 1)]))
    refine own_leave X90 (v := some (.int (1 : Int32))) (fun h => by rw [Bd.returns] at h; cases h) ?_ (by decide) (by decide) (fun fs hr => retN X90 hx (t := .boolean) Bd.returns (by simp) (hb hby at_159) hr)
    show Q_rm0 Z z1 z2 ra0 sp0 ra1 sp1 ra2 sp2 el0 el1 h0 n0 _ T90.heap _
    rw [E90]
    exact ⟨rfl, N90⟩
  · skip
    show own_Ends _ _ _ _ (s₁.setTop (mkF m 14 #[.val (.int z1), .val (.int z2), .val (.int 2), .val (.int 0), .unset, .unset, .unset, .unset, .unset] []))
    refine own_to (fun _ kont => XS.iloadN X0.here hx rfl (hb hby at_14) rfl kont) ?_
    show own_Ends _ _ _ _ (s₁.setTop (mkF m 15 #[.val (.int z1), .val (.int z2), .val (.int 2), .val (.int 0), .unset, .unset, .unset, .unset, .unset] [(.int 2)]))
    refine own_to (fun _ kont => XS.ifYes X0.here hx rfl (pc0 := 15) (pc' := 24) rfl (hb hby at_15) rfl ((if0 _ _).trans (feq (by decide)).2) (by decide) (by decide) kont) ?_
    show own_Ends _ _ _ _ (s₁.setTop (mkF m 24 #[.val (.int z1), .val (.int z2), .val (.int 2), .val (.int 0), .unset, .unset, .unset, .unset, .unset] []))
    refine own_to (fun _ kont => XS.iloadN X0.here hx rfl (hb hby at_24) rfl kont) ?_
    show own_Ends _ _ _ _ (s₁.setTop (mkF m 25 #[.val (.int z1), .val (.int z2), .val (.int 2), .val (.int 0), .unset, .unset, .unset, .unset, .unset] [(.int 2)]))
    refine own_to (fun _ kont => XS.iconst X0.here hx rfl (hb hby at_25) kont) ?_
    show own_Ends _ _ _ _ (s₁.setTop (mkF m 26 #[.val (.int z1), .val (.int z2), .val (.int 2), .val (.int 0), .unset, .unset, .unset, .unset, .unset] [(.int 1), (.int 2)]))
    refine own_to (fun _ kont => XS.icmpYes X0.here hx rfl (pc0 := 26) (pc' := 35) rfl (hb hby at_26) rfl (feq (by decide)).2 (by decide) (by decide) kont) ?_
    show own_Ends _ _ _ _ (s₁.setTop (mkF m 35 #[.val (.int z1), .val (.int z2), .val (.int 2), .val (.int 0), .unset, .unset, .unset, .unset, .unset] []))
    obtain ⟨T91, X91, e91, st91⟩ := getS2 X0 hx hZ hown (host := "") (Or.inl (ow19 hw)) Via.refl e0 (S_ra2.ext O0.2) (g := (mkF m 35 #[.val (.int z1), .val (.int z2), .val (.int (2 : Int32)), .val (.int (0 : Int32)), .unset, .unset, .unset, .unset, .unset] [])) rfl (hb hby at_35)
    refine own_to st91 ?_
    show own_Ends _ _ _ _ (T91.setTop (mkF m 38 #[.val (.int z1), .val (.int z2), .val (.int 2), .val (.int 0), .unset, .unset, .unset, .unset, .unset] [(.ref ra2)]))
    refine own_to (fun _ kont => XS.astore X91.here hx rfl (hb hby at_38) rfl rfl (l' := #[.val (.int z1), .val (.int z2), .val (.int (2 : Int32)), .val (.int (0 : Int32)), .val (.ref ra2), .unset, .unset, .unset, .unset]) rfl kont) ?_
    show own_Ends _ _ _ _ (T91.setTop (mkF m 40 #[.val (.int z1), .val (.int z2), .val (.int 2), .val (.int 0), .val (.ref ra2), .unset, .unset, .unset, .unset] []))
    refine own_to (fun _ kont => XS.iloadN X91.here hx rfl (hb hby at_40) rfl kont) ?_
    show own_Ends _ _ _ _ (T91.setTop (mkF m 41 #[.val (.int z1), .val (.int z2), .val (.int 2), .val (.int 0), .val (.ref ra2), .unset, .unset, .unset, .unset] [(.int 0)]))
    refine own_to (fun _ kont => XS.ifNo X91.here hx rfl (hb hby at_41) rfl ((if0 _ _).trans (teq (by decide)).2) kont) ?_
    show own_Ends _ _ _ _ (T91.setTop (mkF m 44 #[.val (.int z1), .val (.int z2), .val (.int 2), .val (.int 0), .val (.ref ra2), .unset, .unset, .unset, .unset] []))
    obtain ⟨T92, X92, e92, st92⟩ := getS2 X91 hx hZ hown (host := "") (Or.inl (ow4 hw)) Via.refl e91 (S_sp0.ext O0.2) (g := (mkF m 44 #[.val (.int z1), .val (.int z2), .val (.int (2 : Int32)), .val (.int (0 : Int32)), .val (.ref ra2), .unset, .unset, .unset, .unset] [])) rfl (hb hby at_44)
    refine own_to st92 ?_
    show own_Ends _ _ _ _ (T92.setTop (mkF m 47 #[.val (.int z1), .val (.int z2), .val (.int 2), .val (.int 0), .val (.ref ra2), .unset, .unset, .unset, .unset] [(.ref sp0)]))
    refine own_to (fun _ kont => XS.goto X92.here hx rfl (pc0 := 47) (pc' := 64) rfl (hb hby at_47) (by decide) (by decide) kont) ?_
    show own_Ends _ _ _ _ (T92.setTop (mkF m 64 #[.val (.int z1), .val (.int z2), .val (.int 2), .val (.int 0), .val (.ref ra2), .unset, .unset, .unset, .unset] [(.ref sp0)]))
    refine own_to (fun _ kont => XS.astore X92.here hx rfl (hb hby at_64) rfl rfl (l' := #[.val (.int z1), .val (.int z2), .val (.int (2 : Int32)), .val (.int (0 : Int32)), .val (.ref ra2), .val (.ref sp0), .unset, .unset, .unset]) rfl kont) ?_
    show own_Ends _ _ _ _ (T92.setTop (mkF m 66 #[.val (.int z1), .val (.int z2), .val (.int 2), .val (.int 0), .val (.ref ra2), .val (.ref sp0), .unset, .unset, .unset] []))
    refine own_to (fun _ kont => XS.bipush X92.here hx rfl (hb hby at_66) kont) ?_
    show own_Ends _ _ _ _ (T92.setTop (mkF m 68 #[.val (.int z1), .val (.int z2), .val (.int 2), .val (.int 0), .val (.ref ra2), .val (.ref sp0), .unset, .unset, .unset] [(.int 9)]))
    obtain ⟨T93, h93, k93, X93, e93, E93, A93, st93⟩ := newP X92 hx hZ (aty := .boolean) (ow7 hw) e92 (g := (mkF m 68 #[.val (.int z1), .val (.int z2), .val (.int (2 : Int32)), .val (.int (0 : Int32)), .val (.ref ra2), .val (.ref sp0), .unset, .unset, .unset] [(.int (9 : Int32))])) rfl (hb hby at_68) rfl (by decide) (cap := 9) (by decide) (by decide) (by decide) (by decide)
    obtain ⟨b93, g93⟩ : ∃ z, z = h0.size := ⟨_, rfl⟩
    rw [← g93] at A93 st93
    have g_b93 : n0 ≤ b93 := Nat.le_trans (own_old_le O0) (Nat.le_of_eq g93.symm)
    refine own_to st93 ?_
    have O93 := O0.ext E93
    have Vn93 : Arv Z h93 b93 k93 .boolean (9 : Int32) [(.int (0 : Int32)), (.int (0 : Int32)), (.int (0 : Int32)), (.int (0 : Int32)), (.int (0 : Int32)), (.int (0 : Int32)), (.int (0 : Int32)), (.int (0 : Int32)), (.int (0 : Int32))] (.int (0 : Int32)) := (Arv.new A93 (by decide)).pad (pad_rep [] (.int (0 : Int32)) 9)
    show own_Ends _ _ _ _ (T93.setTop (mkF m 70 #[.val (.int z1), .val (.int z2), .val (.int 2), .val (.int 0), .val (.ref ra2), .val (.ref sp0), .unset, .unset, .unset] [(.ref b93)]))
    refine own_to (fun _ kont => XS.dup X93.here hx rfl (hb hby at_70) rfl rfl kont) ?_
    show own_Ends _ _ _ _ (T93.setTop (mkF m 71 #[.val (.int z1), .val (.int z2), .val (.int 2), .val (.int 0), .val (.ref ra2), .val (.ref sp0), .unset, .unset, .unset] [(.ref b93), (.ref b93)]))
    refine own_to (fun _ kont => XS.iconst X93.here hx rfl (hb hby at_71) kont) ?_
    show own_Ends _ _ _ _ (T93.setTop (mkF m 72 #[.val (.int z1), .val (.int z2), .val (.int 2), .val (.int 0), .val (.ref ra2), .val (.ref sp0), .unset, .unset, .unset] [(.int 0), (.ref b93), (.ref b93)]))
    refine own_to (fun _ kont => XS.iconst X93.here hx rfl (hb hby at_72) kont) ?_
    show own_Ends _ _ _ _ (T93.setTop (mkF m 73 #[.val (.int z1), .val (.int z2), .val (.int 2), .val (.int 0), .val (.ref ra2), .val (.ref sp0), .unset, .unset, .unset] [(.int 0), (.int 0), (.ref b93), (.ref b93)]))
    obtain ⟨cl94, Ar94, q94, S94, M94, H94, G94⟩ := Vn93
    have hin94 : ¬ ((0 : Int32) < 0 ∨ cl94.slots.size ≤ ((0 : Int32)).toNatClampNeg) := inb_of S94 ⟨by decide, by decide⟩
    obtain ⟨T94, h94, X94, e94, W94, st94⟩ := stZ X93 hx hZ e93 Ar94 (j := (0 : Int32)) hin94 (g := (mkF m 73 #[.val (.int z1), .val (.int z2), .val (.int (2 : Int32)), .val (.int (0 : Int32)), .val (.ref ra2), .val (.ref sp0), .unset, .unset, .unset] [(.int (0 : Int32)), (.int (0 : Int32)), (.ref b93), (.ref b93)])) rfl rfl (hb hby at_73)
    have Vs94 : Arv Z h94 b93 k93 .boolean (9 : Int32) [(.int (0 : Int32)), (.int (0 : Int32)), (.int (0 : Int32)), (.int (0 : Int32)), (.int (0 : Int32)), (.int (0 : Int32)), (.int (0 : Int32)), (.int (0 : Int32)), (.int (0 : Int32))] (.int (0 : Int32)) := Arv.set Ar94 q94 S94 M94 H94 G94 (fits_nar_bool _) W94 0 rfl (own_lt rfl)
    refine own_to st94 ?_
    have O94 := O93.wr W94 g_b93
    have N94 := Fr.snoc X94 N0 g_b93
    show own_Ends _ _ _ _ (T94.setTop (mkF m 74 #[.val (.int z1), .val (.int z2), .val (.int 2), .val (.int 0), .val (.ref ra2), .val (.ref sp0), .unset, .unset, .unset] [(.ref b93)]))
    refine own_to (fun _ kont => XS.dup X94.here hx rfl (hb hby at_74) rfl rfl kont) ?_
    show own_Ends _ _ _ _ (T94.setTop (mkF m 75 #[.val (.int z1), .val (.int z2), .val (.int 2), .val (.int 0), .val (.ref ra2), .val (.ref sp0), .unset, .unset, .unset] [(.ref b93), (.ref b93)]))
    refine own_to (fun _ kont => XS.iconst X94.here hx rfl (hb hby at_75) kont) ?_
    show own_Ends _ _ _ _ (T94.setTop (mkF m 76 #[.val (.int z1), .val (.int z2), .val (.int 2), .val (.int 0), .val (.ref ra2), .val (.ref sp0), .unset, .unset, .unset] [(.int 1), (.ref b93), (.ref b93)]))
    refine own_to (fun _ kont => XS.iconst X94.here hx rfl (hb hby at_76) kont) ?_
    show own_Ends _ _ _ _ (T94.setTop (mkF m 77 #[.val (.int z1), .val (.int z2), .val (.int 2), .val (.int 0), .val (.ref ra2), .val (.ref sp0), .unset, .unset, .unset] [(.int 1), (.int 1), (.ref b93), (.ref b93)]))
    obtain ⟨cl95, Ar95, q95, S95, M95, H95, G95⟩ := Vs94
    have hin95 : ¬ ((1 : Int32) < 0 ∨ cl95.slots.size ≤ ((1 : Int32)).toNatClampNeg) := inb_of S95 ⟨by decide, by decide⟩
    obtain ⟨T95, h95, X95, e95, W95, st95⟩ := stZ X94 hx hZ e94 Ar95 (j := (1 : Int32)) hin95 (g := (mkF m 77 #[.val (.int z1), .val (.int z2), .val (.int (2 : Int32)), .val (.int (0 : Int32)), .val (.ref ra2), .val (.ref sp0), .unset, .unset, .unset] [(.int (1 : Int32)), (.int (1 : Int32)), (.ref b93), (.ref b93)])) rfl rfl (hb hby at_77)
    have Vs95 : Arv Z h95 b93 k93 .boolean (9 : Int32) [(.int (0 : Int32)), (.int (1 : Int32)), (.int (0 : Int32)), (.int (0 : Int32)), (.int (0 : Int32)), (.int (0 : Int32)), (.int (0 : Int32)), (.int (0 : Int32)), (.int (0 : Int32))] (.int (0 : Int32)) := Arv.set Ar95 q95 S95 M95 H95 G95 (fits_nar_bool _) W95 1 rfl (own_lt rfl)
    refine own_to st95 ?_
    have O95 := O94.wr W95 g_b93
    have N95 := Fr.snoc X95 N94 g_b93
    show own_Ends _ _ _ _ (T95.setTop (mkF m 78 #[.val (.int z1), .val (.int z2), .val (.int 2), .val (.int 0), .val (.ref ra2), .val (.ref sp0), .unset, .unset, .unset] [(.ref b93)]))
    refine own_to (fun _ kont => XS.dup X95.here hx rfl (hb hby at_78) rfl rfl kont) ?_
    show own_Ends _ _ _ _ (T95.setTop (mkF m 79 #[.val (.int z1), .val (.int z2), .val (.int 2), .val (.int 0), .val (.ref ra2), .val (.ref sp0), .unset, .unset, .unset] [(.ref b93), (.ref b93)]))
    refine own_to (fun _ kont => XS.iconst X95.here hx rfl (hb hby at_79) kont) ?_
    show own_Ends _ _ _ _ (T95.setTop (mkF m 80 #[.val (.int z1), .val (.int z2), .val (.int 2), .val (.int 0), .val (.ref ra2), .val (.ref sp0), .unset, .unset, .unset] [(.int 2), (.ref b93), (.ref b93)]))
    refine own_to (fun _ kont => XS.iconst X95.here hx rfl (hb hby at_80) kont) ?_
    show own_Ends _ _ _ _ (T95.setTop (mkF m 81 #[.val (.int z1), .val (.int z2), .val (.int 2), .val (.int 0), .val (.ref ra2), .val (.ref sp0), .unset, .unset, .unset] [(.int 0), (.int 2), (.ref b93), (.ref b93)]))
    obtain ⟨cl96, Ar96, q96, S96, M96, H96, G96⟩ := Vs95
    have hin96 : ¬ ((2 : Int32) < 0 ∨ cl96.slots.size ≤ ((2 : Int32)).toNatClampNeg) := inb_of S96 ⟨by decide, by decide⟩
    obtain ⟨T96, h96, X96, e96, W96, st96⟩ := stZ X95 hx hZ e95 Ar96 (j := (2 : Int32)) hin96 (g := (mkF m 81 #[.val (.int z1), .val (.int z2), .val (.int (2 : Int32)), .val (.int (0 : Int32)), .val (.ref ra2), .val (.ref sp0), .unset, .unset, .unset] [(.int (0 : Int32)), (.int (2 : Int32)), (.ref b93), (.ref b93)])) rfl rfl (hb hby at_81)
    have Vs96 : Arv Z h96 b93 k93 .boolean (9 : Int32) [(.int (0 : Int32)), (.int (1 : Int32)), (.int (0 : Int32)), (.int (0 : Int32)), (.int (0 : Int32)), (.int (0 : Int32)), (.int (0 : Int32)), (.int (0 : Int32)), (.int (0 : Int32))] (.int (0 : Int32)) := Arv.set Ar96 q96 S96 M96 H96 G96 (fits_nar_bool _) W96 2 rfl (own_lt rfl)
    refine own_to st96 ?_
    have O96 := O95.wr W96 g_b93
    have N96 := Fr.snoc X96 N95 g_b93
    show own_Ends _ _ _ _ (T96.setTop (mkF m 82 #[.val (.int z1), .val (.int z2), .val (.int 2), .val (.int 0), .val (.ref ra2), .val (.ref sp0), .unset, .unset, .unset] [(.ref b93)]))
    refine own_to (fun _ kont => XS.dup X96.here hx rfl (hb hby at_82) rfl rfl kont) ?_
    show own_Ends _ _ _ _ (T96.setTop (mkF m 83 #[.val (.int z1), .val (.int z2), .val (.int 2), .val (.int 0), .val (.ref ra2), .val (.ref sp0), .unset, .unset, .unset] [(.ref b93), (.ref b93)]))
    refine own_to (fun _ kont => XS.iconst X96.here hx rfl (hb hby at_83) kont) ?_
    show own_Ends _ _ _ _ (T96.setTop (mkF m 84 #[.val (.int z1), .val (.int z2), .val (.int 2), .val (.int 0), .val (.ref ra2), .val (.ref sp0), .unset, .unset, .unset] [(.int 3), (.ref b93), (.ref b93)]))
    refine own_to (fun _ kont => XS.iconst X96.here hx rfl (hb hby at_84) kont) ?_
    show own_Ends _ _ _ _ (T96.setTop (mkF m 85 #[.val (.int z1), .val (.int z2), .val (.int 2), .val (.int 0), .val (.ref ra2), .val (.ref sp0), .unset, .unset, .unset] [(.int 1), (.int 3), (.ref b93), (.ref b93)]))
    obtain ⟨cl97, Ar97, q97, S97, M97, H97, G97⟩ := Vs96
    have hin97 : ¬ ((3 : Int32) < 0 ∨ cl97.slots.size ≤ ((3 : Int32)).toNatClampNeg) := inb_of S97 ⟨by decide, by decide⟩
    obtain ⟨T97, h97, X97, e97, W97, st97⟩ := stZ X96 hx hZ e96 Ar97 (j := (3 : Int32)) hin97 (g := (mkF m 85 #[.val (.int z1), .val (.int z2), .val (.int (2 : Int32)), .val (.int (0 : Int32)), .val (.ref ra2), .val (.ref sp0), .unset, .unset, .unset] [(.int (1 : Int32)), (.int (3 : Int32)), (.ref b93), (.ref b93)])) rfl rfl (hb hby at_85)
    have Vs97 : Arv Z h97 b93 k93 .boolean (9 : Int32) [(.int (0 : Int32)), (.int (1 : Int32)), (.int (0 : Int32)), (.int (1 : Int32)), (.int (0 : Int32)), (.int (0 : Int32)), (.int (0 : Int32)), (.int (0 : Int32)), (.int (0 : Int32))] (.int (0 : Int32)) := Arv.set Ar97 q97 S97 M97 H97 G97 (fits_nar_bool _) W97 3 rfl (own_lt rfl)
    refine own_to st97 ?_
    have O97 := O96.wr W97 g_b93
    have N97 := Fr.snoc X97 N96 g_b93
    show own_Ends _ _ _ _ (T97.setTop (mkF m 86 #[.val (.int z1), .val (.int z2), .val (.int 2), .val (.int 0), .val (.ref ra2), .val (.ref sp0), .unset, .unset, .unset] [(.ref b93)]))
    refine own_to (fun _ kont => XS.dup X97.here hx rfl (hb hby at_86) rfl rfl kont) ?_
    show own_Ends _ _ _ _ (T97.setTop (mkF m 87 #[.val (.int z1), .val (.int z2), .val (.int 2), .val (.int 0), .val (.ref ra2), .val (.ref sp0), .unset, .unset, .unset] [(.ref b93), (.ref b93)]))
    refine own_to (fun _ kont => XS.iconst X97.here hx rfl (hb hby at_87) kont) ?_
    show own_Ends _ _ _ _ (T97.setTop (mkF m 88 #[.val (.int z1), .val (.int z2), .val (.int 2), .val (.int 0), .val (.ref ra2), .val (.ref sp0), .unset, .unset, .unset] [(.int 4), (.ref b93), (.ref b93)]))
    refine own_to (fun _ kont => XS.iconst X97.here hx rfl (hb hby at_88) kont) ?_
    show own_Ends _ _ _ _ (T97.setTop (mkF m 89 #[.val (.int z1), .val (.int z2), .val (.int 2), .val (.int 0), .val (.ref ra2), .val (.ref sp0), .unset, .unset, .unset] [(.int 1), (.int 4), (.ref b93), (.ref b93)]))
    obtain ⟨cl98, Ar98, q98, S98, M98, H98, G98⟩ := Vs97
    have hin98 : ¬ ((4 : Int32) < 0 ∨ cl98.slots.size ≤ ((4 : Int32)).toNatClampNeg) := inb_of S98 ⟨by decide, by decide⟩
    obtain ⟨T98, h98, X98, e98, W98, st98⟩ := stZ X97 hx hZ e97 Ar98 (j := (4 : Int32)) hin98 (g := (mkF m 89 #[.val (.int z1), .val (.int z2), .val (.int (2 : Int32)), .val (.int (0 : Int32)), .val (.ref ra2), .val (.ref sp0), .unset, .unset, .unset] [(.int (1 : Int32)), (.int (4 : Int32)), (.ref b93), (.ref b93)])) rfl rfl (hb hby at_89)
    have Vs98 : Arv Z h98 b93 k93 .boolean (9 : Int32) [(.int (0 : Int32)), (.int (1 : Int32)), (.int (0 : Int32)), (.int (1 : Int32)), (.int (1 : Int32)), (.int (0 : Int32)), (.int (0 : Int32)), (.int (0 : Int32)), (.int (0 : Int32))] (.int (0 : Int32)) := Arv.set Ar98 q98 S98 M98 H98 G98 (fits_nar_bool _) W98 4 rfl (own_lt rfl)
    refine own_to st98 ?_
    have O98 := O97.wr W98 g_b93
    have N98 := Fr.snoc X98 N97 g_b93
    show own_Ends _ _ _ _ (T98.setTop (mkF m 90 #[.val (.int z1), .val (.int z2), .val (.int 2), .val (.int 0), .val (.ref ra2), .val (.ref sp0), .unset, .unset, .unset] [(.ref b93)]))
    refine own_to (fun _ kont => XS.dup X98.here hx rfl (hb hby at_90) rfl rfl kont) ?_
    show own_Ends _ _ _ _ (T98.setTop (mkF m 91 #[.val (.int z1), .val (.int z2), .val (.int 2), .val (.int 0), .val (.ref ra2), .val (.ref sp0), .unset, .unset, .unset] [(.ref b93), (.ref b93)]))
    refine own_to (fun _ kont => XS.iconst X98.here hx rfl (hb hby at_91) kont) ?_
    show own_Ends _ _ _ _ (T98.setTop (mkF m 92 #[.val (.int z1), .val (.int z2), .val (.int 2), .val (.int 0), .val (.ref ra2), .val (.ref sp0), .unset, .unset, .unset] [(.int 5), (.ref b93), (.ref b93)]))
    refine own_to (fun _ kont => XS.iconst X98.here hx rfl (hb hby at_92) kont) ?_
    show own_Ends _ _ _ _ (T98.setTop (mkF m 93 #[.val (.int z1), .val (.int z2), .val (.int 2), .val (.int 0), .val (.ref ra2), .val (.ref sp0), .unset, .unset, .unset] [(.int 1), (.int 5), (.ref b93), (.ref b93)]))
    obtain ⟨cl99, Ar99, q99, S99, M99, H99, G99⟩ := Vs98
    have hin99 : ¬ ((5 : Int32) < 0 ∨ cl99.slots.size ≤ ((5 : Int32)).toNatClampNeg) := inb_of S99 ⟨by decide, by decide⟩
    obtain ⟨T99, h99, X99, e99, W99, st99⟩ := stZ X98 hx hZ e98 Ar99 (j := (5 : Int32)) hin99 (g := (mkF m 93 #[.val (.int z1), .val (.int z2), .val (.int (2 : Int32)), .val (.int (0 : Int32)), .val (.ref ra2), .val (.ref sp0), .unset, .unset, .unset] [(.int (1 : Int32)), (.int (5 : Int32)), (.ref b93), (.ref b93)])) rfl rfl (hb hby at_93)
    have Vs99 : Arv Z h99 b93 k93 .boolean (9 : Int32) [(.int (0 : Int32)), (.int (1 : Int32)), (.int (0 : Int32)), (.int (1 : Int32)), (.int (1 : Int32)), (.int (1 : Int32)), (.int (0 : Int32)), (.int (0 : Int32)), (.int (0 : Int32))] (.int (0 : Int32)) := Arv.set Ar99 q99 S99 M99 H99 G99 (fits_nar_bool _) W99 5 rfl (own_lt rfl)
    refine own_to st99 ?_
    have O99 := O98.wr W99 g_b93
    have N99 := Fr.snoc X99 N98 g_b93
    show own_Ends _ _ _ _ (T99.setTop (mkF m 94 #[.val (.int z1), .val (.int z2), .val (.int 2), .val (.int 0), .val (.ref ra2), .val (.ref sp0), .unset, .unset, .unset] [(.ref b93)]))
    refine own_to (fun _ kont => XS.dup X99.here hx rfl (hb hby at_94) rfl rfl kont) ?_
    show own_Ends _ _ _ _ (T99.setTop (mkF m 95 #[.val (.int z1), .val (.int z2), .val (.int 2), .val (.int 0), .val (.ref ra2), .val (.ref sp0), .unset, .unset, .unset] [(.ref b93), (.ref b93)]))
    refine own_to (fun _ kont => XS.bipush X99.here hx rfl (hb hby at_95) kont) ?_
    show own_Ends _ _ _ _ (T99.setTop (mkF m 97 #[.val (.int z1), .val (.int z2), .val (.int 2), .val (.int 0), .val (.ref ra2), .val (.ref sp0), .unset, .unset, .unset] [(.int 6), (.ref b93), (.ref b93)]))
    refine own_to (fun _ kont => XS.iconst X99.here hx rfl (hb hby at_97) kont) ?_
    show own_Ends _ _ _ _ (T99.setTop (mkF m 98 #[.val (.int z1), .val (.int z2), .val (.int 2), .val (.int 0), .val (.ref ra2), .val (.ref sp0), .unset, .unset, .unset] [(.int 0), (.int 6), (.ref b93), (.ref b93)]))
    obtain ⟨cl100, Ar100, q100, S100, M100, H100, G100⟩ := Vs99
    have hin100 : ¬ ((6 : Int32) < 0 ∨ cl100.slots.size ≤ ((6 : Int32)).toNatClampNeg) := inb_of S100 ⟨by decide, by decide⟩
    obtain ⟨T100, h100, X100, e100, W100, st100⟩ := stZ X99 hx hZ e99 Ar100 (j := (6 : Int32)) hin100 (g := (mkF m 98 #[.val (.int z1), .val (.int z2), .val (.int (2 : Int32)), .val (.int (0 : Int32)), .val (.ref ra2), .val (.ref sp0), .unset, .unset, .unset] [(.int (0 : Int32)), (.int (6 : Int32)), (.ref b93), (.ref b93)])) rfl rfl (hb hby at_98)
    have Vs100 : Arv Z h100 b93 k93 .boolean (9 : Int32) [(.int (0 : Int32)), (.int (1 : Int32)), (.int (0 : Int32)), (.int (1 : Int32)), (.int (1 : Int32)), (.int (1 : Int32)), (.int (0 : Int32)), (.int (0 : Int32)), (.int (0 : Int32))] (.int (0 : Int32)) := Arv.set Ar100 q100 S100 M100 H100 G100 (fits_nar_bool _) W100 6 rfl (own_lt rfl)
    refine own_to st100 ?_
    have O100 := O99.wr W100 g_b93
    have N100 := Fr.snoc X100 N99 g_b93
    show own_Ends _ _ _ _ (T100.setTop (mkF m 99 #[.val (.int z1), .val (.int z2), .val (.int 2), .val (.int 0), .val (.ref ra2), .val (.ref sp0), .unset, .unset, .unset] [(.ref b93)]))
    refine own_to (fun _ kont => XS.dup X100.here hx rfl (hb hby at_99) rfl rfl kont) ?_
    show own_Ends _ _ _ _ (T100.setTop (mkF m 100 #[.val (.int z1), .val (.int z2), .val (.int 2), .val (.int 0), .val (.ref ra2), .val (.ref sp0), .unset, .unset, .unset] [(.ref b93), (.ref b93)]))
    refine own_to (fun _ kont => XS.bipush X100.here hx rfl (hb hby at_100) kont) ?_
    show own_Ends _ _ _ _ (T100.setTop (mkF m 102 #[.val (.int z1), .val (.int z2), .val (.int 2), .val (.int 0), .val (.ref ra2), .val (.ref sp0), .unset, .unset, .unset] [(.int 7), (.ref b93), (.ref b93)]))
    refine own_to (fun _ kont => XS.iconst X100.here hx rfl (hb hby at_102) kont) ?_
    show own_Ends _ _ _ _ (T100.setTop (mkF m 103 #[.val (.int z1), .val (.int z2), .val (.int 2), .val (.int 0), .val (.ref ra2), .val (.ref sp0), .unset, .unset, .unset] [(.int 1), (.int 7), (.ref b93), (.ref b93)]))
    obtain ⟨cl101, Ar101, q101, S101, M101, H101, G101⟩ := Vs100
    have hin101 : ¬ ((7 : Int32) < 0 ∨ cl101.slots.size ≤ ((7 : Int32)).toNatClampNeg) := inb_of S101 ⟨by decide, by decide⟩
    obtain ⟨T101, h101, X101, e101, W101, st101⟩ := stZ X100 hx hZ e100 Ar101 (j := (7 : Int32)) hin101 (g := (mkF m 103 #[.val (.int z1), .val (.int z2), .val (.int (2 : Int32)), .val (.int (0 : Int32)), .val (.ref ra2), .val (.ref sp0), .unset, .unset, .unset] [(.int (1 : Int32)), (.int (7 : Int32)), (.ref b93), (.ref b93)])) rfl rfl (hb hby at_103)
    have Vs101 : Arv Z h101 b93 k93 .boolean (9 : Int32) [(.int (0 : Int32)), (.int (1 : Int32)), (.int (0 : Int32)), (.int (1 : Int32)), (.int (1 : Int32)), (.int (1 : Int32)), (.int (0 : Int32)), (.int (1 : Int32)), (.int (0 : Int32))] (.int (0 : Int32)) := Arv.set Ar101 q101 S101 M101 H101 G101 (fits_nar_bool _) W101 7 rfl (own_lt rfl)
    refine own_to st101 ?_
    have O101 := O100.wr W101 g_b93
    have N101 := Fr.snoc X101 N100 g_b93
    show own_Ends _ _ _ _ (T101.setTop (mkF m 104 #[.val (.int z1), .val (.int z2), .val (.int 2), .val (.int 0), .val (.ref ra2), .val (.ref sp0), .unset, .unset, .unset] [(.ref b93)]))
    refine own_to (fun _ kont => XS.dup X101.here hx rfl (hb hby at_104) rfl rfl kont) ?_
    show own_Ends _ _ _ _ (T101.setTop (mkF m 105 #[.val (.int z1), .val (.int z2), .val (.int 2), .val (.int 0), .val (.ref ra2), .val (.ref sp0), .unset, .unset, .unset] [(.ref b93), (.ref b93)]))
    refine own_to (fun _ kont => XS.bipush X101.here hx rfl (hb hby at_105) kont) ?_
    show own_Ends _ _ _ _ (T101.setTop (mkF m 107 #[.val (.int z1), .val (.int z2), .val (.int 2), .val (.int 0), .val (.ref ra2), .val (.ref sp0), .unset, .unset, .unset] [(.int 8), (.ref b93), (.ref b93)]))
    refine own_to (fun _ kont => XS.iconst X101.here hx rfl (hb hby at_107) kont) ?_
    show own_Ends _ _ _ _ (T101.setTop (mkF m 108 #[.val (.int z1), .val (.int z2), .val (.int 2), .val (.int 0), .val (.ref ra2), .val (.ref sp0), .unset, .unset, .unset] [(.int 0), (.int 8), (.ref b93), (.ref b93)]))
    obtain ⟨cl102, Ar102, q102, S102, M102, H102, G102⟩ := Vs101
    have hin102 : ¬ ((8 : Int32) < 0 ∨ cl102.slots.size ≤ ((8 : Int32)).toNatClampNeg) := inb_of S102 ⟨by decide, by decide⟩
    obtain ⟨T102, h102, X102, e102, W102, st102⟩ := stZ X101 hx hZ e101 Ar102 (j := (8 : Int32)) hin102 (g := (mkF m 108 #[.val (.int z1), .val (.int z2), .val (.int (2 : Int32)), .val (.int (0 : Int32)), .val (.ref ra2), .val (.ref sp0), .unset, .unset, .unset] [(.int (0 : Int32)), (.int (8 : Int32)), (.ref b93), (.ref b93)])) rfl rfl (hb hby at_108)
    have Vs102 : Arv Z h102 b93 k93 .boolean (9 : Int32) [(.int (0 : Int32)), (.int (1 : Int32)), (.int (0 : Int32)), (.int (1 : Int32)), (.int (1 : Int32)), (.int (1 : Int32)), (.int (0 : Int32)), (.int (1 : Int32)), (.int (0 : Int32))] (.int (0 : Int32)) := Arv.set Ar102 q102 S102 M102 H102 G102 (fits_nar_bool _) W102 8 rfl (own_lt rfl)
    refine own_to st102 ?_
    have O102 := O101.wr W102 g_b93
    have N102 := Fr.snoc X102 N101 g_b93
    show own_Ends _ _ _ _ (T102.setTop (mkF m 109 #[.val (.int z1), .val (.int z2), .val (.int 2), .val (.int 0), .val (.ref ra2), .val (.ref sp0), .unset, .unset, .unset] [(.ref b93)]))
    refine own_to (fun _ kont => XS.astore X102.here hx rfl (hb hby at_109) rfl rfl (l' := #[.val (.int z1), .val (.int z2), .val (.int (2 : Int32)), .val (.int (0 : Int32)), .val (.ref ra2), .val (.ref sp0), .val (.ref b93), .unset, .unset]) rfl kont) ?_
    show own_Ends _ _ _ _ (T102.setTop (mkF m 111 #[.val (.int z1), .val (.int z2), .val (.int 2), .val (.int 0), .val (.ref ra2), .val (.ref sp0), .val (.ref b93), .unset, .unset] []))
    refine own_to (fun _ kont => XS.aload X102.here hx rfl (hb hby at_111) rfl rfl kont) ?_
    show own_Ends _ _ _ _ (T102.setTop (mkF m 113 #[.val (.int z1), .val (.int z2), .val (.int 2), .val (.int 0), .val (.ref ra2), .val (.ref sp0), .val (.ref b93), .unset, .unset] [(.ref b93)]))
    refine own_to (fun _ kont => XS.iloadN X102.here hx rfl (hb hby at_113) rfl kont) ?_
    show own_Ends _ _ _ _ (T102.setTop (mkF m 114 #[.val (.int z1), .val (.int z2), .val (.int 2), .val (.int 0), .val (.ref ra2), .val (.ref sp0), .val (.ref b93), .unset, .unset] [(.int 2), (.ref b93)]))
    refine own_to (fun _ kont => XS.iconst X102.here hx rfl (hb hby at_114) kont) ?_
    show own_Ends _ _ _ _ (T102.setTop (mkF m 115 #[.val (.int z1), .val (.int z2), .val (.int 2), .val (.int 0), .val (.ref ra2), .val (.ref sp0), .val (.ref b93), .unset, .unset] [(.int 3), (.int 2), (.ref b93)]))
    refine own_to (fun _ kont => XS.imul X102.here hx rfl (hb hby at_115) rfl kont) ?_
    show own_Ends _ _ _ _ (T102.setTop (mkF m 116 #[.val (.int z1), .val (.int z2), .val (.int 2), .val (.int 0), .val (.ref ra2), .val (.ref sp0), .val (.ref b93), .unset, .unset] [(.int 6), (.ref b93)]))
    refine own_to (fun _ kont => XS.iloadN X102.here hx rfl (hb hby at_116) rfl kont) ?_
    show own_Ends _ _ _ _ (T102.setTop (mkF m 117 #[.val (.int z1), .val (.int z2), .val (.int 2), .val (.int 0), .val (.ref ra2), .val (.ref sp0), .val (.ref b93), .unset, .unset] [(.int 0), (.int 6), (.ref b93)]))
    refine own_to (fun _ kont => XS.iadd X102.here hx rfl (hb hby at_117) rfl kont) ?_
    show own_Ends _ _ _ _ (T102.setTop (mkF m 118 #[.val (.int z1), .val (.int z2), .val (.int 2), .val (.int 0), .val (.ref ra2), .val (.ref sp0), .val (.ref b93), .unset, .unset] [(.int 6), (.ref b93)]))
    obtain ⟨cl103, Ar103, q103, S103, M103, H103, G103⟩ := Vs102
    have hin103 : ¬ ((6 : Int32) < 0 ∨ cl103.slots.size ≤ ((6 : Int32)).toNatClampNeg) := inb_of S103 ⟨by decide, by decide⟩
    have hat103 : cl103.slots[((6 : Int32)).toNatClampNeg]? = some (.int (0 : Int32)) := Has.at H103 hin103 rfl
    refine own_to (fun _ kont => X102.baloadBooleans hx (j := (6 : Int32)) (v := (.int (0 : Int32))) (by rw [e102]; exact Ar103.1) (State.isArrayOf_alike hZ.alike Ar103.2.1) Ar103.2.2 hin103 hat103 (g := (mkF m 118 #[.val (.int z1), .val (.int z2), .val (.int (2 : Int32)), .val (.int (0 : Int32)), .val (.ref ra2), .val (.ref sp0), .val (.ref b93), .unset, .unset] [(.int (6 : Int32)), (.ref b93)])) rfl rfl (hb hby at_118) _ kont) ?_
    show own_Ends _ _ _ _ (T102.setTop (mkF m 119 #[.val (.int z1), .val (.int z2), .val (.int 2), .val (.int 0), .val (.ref ra2), .val (.ref sp0), .val (.ref b93), .unset, .unset] [(.int 0)]))
    refine own_to (fun _ kont => XS.ifYes X102.here hx rfl (pc0 := 119) (pc' := 128) rfl (hb hby at_119) rfl ((if0 _ _).trans (teq (by decide)).1) (by decide) (by decide) kont) ?_
    show own_Ends _ _ _ _ (T102.setTop (mkF m 128 #[.val (.int z1), .val (.int z2), .val (.int 2), .val (.int 0), .val (.ref ra2), .val (.ref sp0), .val (.ref b93), .unset, .unset] []))
    obtain ⟨T104, X104, e104, st104⟩ := getS2 X102 hx hZ hown (host := "") (Or.inl (ow8 hw)) Via.refl e102 (S_el0.ext O102.2) (g := (mkF m 128 #[.val (.int z1), .val (.int z2), .val (.int (2 : Int32)), .val (.int (0 : Int32)), .val (.ref ra2), .val (.ref sp0), .val (.ref b93), .unset, .unset] [])) rfl (hb hby at_128)
    refine own_to st104 ?_
    show own_Ends _ _ _ _ (T104.setTop (mkF m 131 #[.val (.int z1), .val (.int z2), .val (.int 2), .val (.int 0), .val (.ref ra2), .val (.ref sp0), .val (.ref b93), .unset, .unset] [(.ref el0)]))
    refine own_to (fun _ kont => XS.astore X104.here hx rfl (hb hby at_131) rfl rfl (l' := #[.val (.int z1), .val (.int z2), .val (.int (2 : Int32)), .val (.int (0 : Int32)), .val (.ref ra2), .val (.ref sp0), .val (.ref b93), .val (.ref el0), .unset]) rfl kont) ?_
    show own_Ends _ _ _ _ (T104.setTop (mkF m 133 #[.val (.int z1), .val (.int z2), .val (.int 2), .val (.int 0), .val (.ref ra2), .val (.ref sp0), .val (.ref b93), .val (.ref el0), .unset] []))
    refine own_to (fun _ kont => XS.aload X104.here hx rfl (hb hby at_133) rfl rfl kont) ?_
    show own_Ends _ _ _ _ (T104.setTop (mkF m 135 #[.val (.int z1), .val (.int z2), .val (.int 2), .val (.int 0), .val (.ref ra2), .val (.ref sp0), .val (.ref b93), .val (.ref el0), .unset] [(.ref ra2)]))
    refine own_to (fun _ kont => XS.aload X104.here hx rfl (hb hby at_135) rfl rfl kont) ?_
    show own_Ends _ _ _ _ (T104.setTop (mkF m 137 #[.val (.int z1), .val (.int z2), .val (.int 2), .val (.int 0), .val (.ref ra2), .val (.ref sp0), .val (.ref b93), .val (.ref el0), .unset] [(.ref sp0), (.ref ra2)]))
    obtain ⟨_, _, ⟨T105, L105, k105, n105⟩, -, X105, ⟨Lc105, hQ105, l105, y105, z105⟩, st105⟩ := Jvm.LawKit.callS X104 hx (y := oM0) hown (mvT hZ (ow11 hw)) (mvT hZ (ow12 hw)) (mvT hZ (ow9 hw)) (mvT hZ (ow13 hw)) (by decide) (backOf (W := 0) (rm1 l Z a0 hw [] ra2 sp0 ra1 sp1 el1 el0 h102 n0 O102 S_ra1 S_sp1 S_el1 S_el0) hZ (ow13 hw) (ow9 hw) (by decide) (by decide)) (g := (mkF m 137 #[.val (.int z1), .val (.int z2), .val (.int (2 : Int32)), .val (.int (0 : Int32)), .val (.ref ra2), .val (.ref sp0), .val (.ref b93), .val (.ref el0), .unset] [(.ref sp0), (.ref ra2)])) rfl (by rw [hml]; rfl) (argsL := [(.ref ra2), (.ref sp0)]) (rest := []) (lenOf pd_0 rfl) rfl (by show 2 * 0 + _ ≤ _; exact Nat.le_of_eq rfl) (hb hby at_137) (fun _ _ => ⟨rfl, e104, (own_le rfl), (own_le rfl)⟩)
    dsimp only [Pt.U, Pt.locs, Pt.cells, Pt.slots] at X105 l105 y105 z105 st105 hQ105
    subst l105 y105 z105
    obtain ⟨hv105, N105q, E105⟩ := hQ105
    rw [own_of3 (Fld.ne F_ra2 F_ra1 (own_intne (by decide))) (Fld.ne F_sp0 F_sp1 (own_intne (by decide)))] at hv105
    subst hv105
    have N105 := Fr.app N102 N105q
    refine own_to st105 ?_
    show own_Ends _ _ _ _ (T105.setTop (mkF m 140 #[.val (.int z1), .val (.int z2), .val (.int 2), .val (.int 0), .val (.ref ra2), .val (.ref sp0), .val (.ref b93), .val (.ref el0), .unset] [(.ref el0)]))
    refine own_to (fun _ kont => XS.astore X105.here hx rfl (hb hby at_140) rfl rfl (l' := #[.val (.int z1), .val (.int z2), .val (.int (2 : Int32)), .val (.int (0 : Int32)), .val (.ref ra2), .val (.ref sp0), .val (.ref b93), .val (.ref el0), .val (.ref el0)]) rfl kont) ?_
    show own_Ends _ _ _ _ (T105.setTop (mkF m 142 #[.val (.int z1), .val (.int z2), .val (.int 2), .val (.int 0), .val (.ref ra2), .val (.ref sp0), .val (.ref b93), .val (.ref el0), .val (.ref el0)] []))
    refine own_to (fun _ kont => XS.aload X105.here hx rfl (hb hby at_142) rfl rfl kont) ?_
    show own_Ends _ _ _ _ (T105.setTop (mkF m 144 #[.val (.int z1), .val (.int z2), .val (.int 2), .val (.int 0), .val (.ref ra2), .val (.ref sp0), .val (.ref b93), .val (.ref el0), .val (.ref el0)] [(.ref el0)]))
    refine own_to (fun _ kont => XS.ifnullNo X105.here hx rfl (hb hby at_144) rfl kont) ?_
    show own_Ends _ _ _ _ (T105.setTop (mkF m 147 #[.val (.int z1), .val (.int z2), .val (.int 2), .val (.int 0), .val (.ref ra2), .val (.ref sp0), .val (.ref b93), .val (.ref el0), .val (.ref el0)] []))
    refine own_to (fun _ kont => XS.aload X105.here hx rfl (hb hby at_147) rfl rfl kont) ?_
    show own_Ends _ _ _ _ (T105.setTop (mkF m 149 #[.val (.int z1), .val (.int z2), .val (.int 2), .val (.int 0), .val (.ref ra2), .val (.ref sp0), .val (.ref b93), .val (.ref el0), .val (.ref el0)] [(.ref el0)]))
    refine own_to (fun _ kont => XS.aload X105.here hx rfl (hb hby at_149) rfl rfl kont) ?_
    show own_Ends _ _ _ _ (T105.setTop (mkF m 151 #[.val (.int z1), .val (.int z2), .val (.int 2), .val (.int 0), .val (.ref ra2), .val (.ref sp0), .val (.ref b93), .val (.ref el0), .val (.ref el0)] [(.ref el0), (.ref el0)]))
    refine own_to (fun _ kont => Jvm.RoadKit.acmp (g := (mkF m 151 #[.val (.int z1), .val (.int z2), .val (.int (2 : Int32)), .val (.int (0 : Int32)), .val (.ref ra2), .val (.ref sp0), .val (.ref b93), .val (.ref el0), .val (.ref el0)] [(.ref el0), (.ref el0)])) X105 hx rfl rfl rfl (pc0 := 151) (pc' := 154) (same := true) rfl (hb hby at_151) rfl (decide_eq_true rfl) (by decide) (by decide) kont) ?_
    show own_Ends _ _ _ _ (T105.setTop (mkF m 154 #[.val (.int z1), .val (.int z2), .val (.int 2), .val (.int 0), .val (.ref ra2), .val (.ref sp0), .val (.ref b93), .val (.ref el0), .val (.ref el0)] []))
    refine own_to (fun _ kont => XS.iconst X105.here hx rfl (hb hby at_154) kont) ?_
    show own_Ends _ _ _ _ (T105.setTop (mkF m 155 #[.val (.int z1), .val (.int z2), .val (.int 2), .val (.int 0), .val (.ref ra2), .val (.ref sp0), .val (.ref b93), .val (.ref el0), .val (.ref el0)] [(.int 1)]))
    refine own_to (fun _ kont => XS.goto X105.here hx rfl (pc0 := 155) (pc' := 159) rfl (hb hby at_155) (by decide) (by decide) kont) ?_
    show own_Ends _ _ _ _ (T105.setTop (mkF m 159 #[.val (.int z1), .val (.int z2), .val (.int 2), .val (.int 0), .val (.ref ra2), .val (.ref sp0), .val (.ref b93), .val (.ref el0), .val (.ref el0)] [(.int 1)]))
    refine own_leave X105 (v := some (.int (1 : Int32))) (fun h => by rw [Bd.returns] at h; cases h) ?_ (by decide) (by decide) (fun fs hr => retN X105 hx (t := .boolean) Bd.returns (by simp) (hb hby at_159) hr)
    show Q_rm0 Z z1 z2 ra0 sp0 ra1 sp1 ra2 sp2 el0 el1 h0 n0 _ T105.heap _
    rw [E105]
    exact ⟨rfl, N105⟩
  · skip
    show own_Ends _ _ _ _ (s₁.setTop (mkF m 14 #[.val (.int z1), .val (.int z2), .val (.int 2), .val (.int 1), .unset, .unset, .unset, .unset, .unset] []))
    refine own_to (fun _ kont => XS.iloadN X0.here hx rfl (hb hby at_14) rfl kont) ?_
    show own_Ends _ _ _ _ (s₁.setTop (mkF m 15 #[.val (.int z1), .val (.int z2), .val (.int 2), .val (.int 1), .unset, .unset, .unset, .unset, .unset] [(.int 2)]))
    refine own_to (fun _ kont => XS.ifYes X0.here hx rfl (pc0 := 15) (pc' := 24) rfl (hb hby at_15) rfl ((if0 _ _).trans (feq (by decide)).2) (by decide) (by decide) kont) ?_
    show own_Ends _ _ _ _ (s₁.setTop (mkF m 24 #[.val (.int z1), .val (.int z2), .val (.int 2), .val (.int 1), .unset, .unset, .unset, .unset, .unset] []))
    refine own_to (fun _ kont => XS.iloadN X0.here hx rfl (hb hby at_24) rfl kont) ?_
    show own_Ends _ _ _ _ (s₁.setTop (mkF m 25 #[.val (.int z1), .val (.int z2), .val (.int 2), .val (.int 1), .unset, .unset, .unset, .unset, .unset] [(.int 2)]))
    refine own_to (fun _ kont => XS.iconst X0.here hx rfl (hb hby at_25) kont) ?_
    show own_Ends _ _ _ _ (s₁.setTop (mkF m 26 #[.val (.int z1), .val (.int z2), .val (.int 2), .val (.int 1), .unset, .unset, .unset, .unset, .unset] [(.int 1), (.int 2)]))
    refine own_to (fun _ kont => XS.icmpYes X0.here hx rfl (pc0 := 26) (pc' := 35) rfl (hb hby at_26) rfl (feq (by decide)).2 (by decide) (by decide) kont) ?_
    show own_Ends _ _ _ _ (s₁.setTop (mkF m 35 #[.val (.int z1), .val (.int z2), .val (.int 2), .val (.int 1), .unset, .unset, .unset, .unset, .unset] []))
    obtain ⟨T106, X106, e106, st106⟩ := getS2 X0 hx hZ hown (host := "") (Or.inl (ow19 hw)) Via.refl e0 (S_ra2.ext O0.2) (g := (mkF m 35 #[.val (.int z1), .val (.int z2), .val (.int (2 : Int32)), .val (.int (1 : Int32)), .unset, .unset, .unset, .unset, .unset] [])) rfl (hb hby at_35)
    refine own_to st106 ?_
    show own_Ends _ _ _ _ (T106.setTop (mkF m 38 #[.val (.int z1), .val (.int z2), .val (.int 2), .val (.int 1), .unset, .unset, .unset, .unset, .unset] [(.ref ra2)]))
    refine own_to (fun _ kont => XS.astore X106.here hx rfl (hb hby at_38) rfl rfl (l' := #[.val (.int z1), .val (.int z2), .val (.int (2 : Int32)), .val (.int (1 : Int32)), .val (.ref ra2), .unset, .unset, .unset, .unset]) rfl kont) ?_
    show own_Ends _ _ _ _ (T106.setTop (mkF m 40 #[.val (.int z1), .val (.int z2), .val (.int 2), .val (.int 1), .val (.ref ra2), .unset, .unset, .unset, .unset] []))
    refine own_to (fun _ kont => XS.iloadN X106.here hx rfl (hb hby at_40) rfl kont) ?_
    show own_Ends _ _ _ _ (T106.setTop (mkF m 41 #[.val (.int z1), .val (.int z2), .val (.int 2), .val (.int 1), .val (.ref ra2), .unset, .unset, .unset, .unset] [(.int 1)]))
    refine own_to (fun _ kont => XS.ifYes X106.here hx rfl (pc0 := 41) (pc' := 50) rfl (hb hby at_41) rfl ((if0 _ _).trans (feq (by decide)).2) (by decide) (by decide) kont) ?_
    show own_Ends _ _ _ _ (T106.setTop (mkF m 50 #[.val (.int z1), .val (.int z2), .val (.int 2), .val (.int 1), .val (.ref ra2), .unset, .unset, .unset, .unset] []))
    refine own_to (fun _ kont => XS.iloadN X106.here hx rfl (hb hby at_50) rfl kont) ?_
    show own_Ends _ _ _ _ (T106.setTop (mkF m 51 #[.val (.int z1), .val (.int z2), .val (.int 2), .val (.int 1), .val (.ref ra2), .unset, .unset, .unset, .unset] [(.int 1)]))
    refine own_to (fun _ kont => XS.iconst X106.here hx rfl (hb hby at_51) kont) ?_
    show own_Ends _ _ _ _ (T106.setTop (mkF m 52 #[.val (.int z1), .val (.int z2), .val (.int 2), .val (.int 1), .val (.ref ra2), .unset, .unset, .unset, .unset] [(.int 1), (.int 1)]))
    refine own_to (fun _ kont => XS.icmpNo X106.here hx rfl (hb hby at_52) rfl (teq (by decide)).2 kont) ?_
    show own_Ends _ _ _ _ (T106.setTop (mkF m 55 #[.val (.int z1), .val (.int z2), .val (.int 2), .val (.int 1), .val (.ref ra2), .unset, .unset, .unset, .unset] []))
    obtain ⟨T107, X107, e107, st107⟩ := getS2 X106 hx hZ hown (host := "") (Or.inl (ow21 hw)) Via.refl e106 (S_sp1.ext O0.2) (g := (mkF m 55 #[.val (.int z1), .val (.int z2), .val (.int (2 : Int32)), .val (.int (1 : Int32)), .val (.ref ra2), .unset, .unset, .unset, .unset] [])) rfl (hb hby at_55)
    refine own_to st107 ?_
    show own_Ends _ _ _ _ (T107.setTop (mkF m 58 #[.val (.int z1), .val (.int z2), .val (.int 2), .val (.int 1), .val (.ref ra2), .unset, .unset, .unset, .unset] [(.ref sp1)]))
    refine own_to (fun _ kont => XS.goto X107.here hx rfl (pc0 := 58) (pc' := 64) rfl (hb hby at_58) (by decide) (by decide) kont) ?_
    show own_Ends _ _ _ _ (T107.setTop (mkF m 64 #[.val (.int z1), .val (.int z2), .val (.int 2), .val (.int 1), .val (.ref ra2), .unset, .unset, .unset, .unset] [(.ref sp1)]))
    refine own_to (fun _ kont => XS.astore X107.here hx rfl (hb hby at_64) rfl rfl (l' := #[.val (.int z1), .val (.int z2), .val (.int (2 : Int32)), .val (.int (1 : Int32)), .val (.ref ra2), .val (.ref sp1), .unset, .unset, .unset]) rfl kont) ?_
    show own_Ends _ _ _ _ (T107.setTop (mkF m 66 #[.val (.int z1), .val (.int z2), .val (.int 2), .val (.int 1), .val (.ref ra2), .val (.ref sp1), .unset, .unset, .unset] []))
    refine own_to (fun _ kont => XS.bipush X107.here hx rfl (hb hby at_66) kont) ?_
    show own_Ends _ _ _ _ (T107.setTop (mkF m 68 #[.val (.int z1), .val (.int z2), .val (.int 2), .val (.int 1), .val (.ref ra2), .val (.ref sp1), .unset, .unset, .unset] [(.int 9)]))
    obtain ⟨T108, h108, k108, X108, e108, E108, A108, st108⟩ := newP X107 hx hZ (aty := .boolean) (ow7 hw) e107 (g := (mkF m 68 #[.val (.int z1), .val (.int z2), .val (.int (2 : Int32)), .val (.int (1 : Int32)), .val (.ref ra2), .val (.ref sp1), .unset, .unset, .unset] [(.int (9 : Int32))])) rfl (hb hby at_68) rfl (by decide) (cap := 9) (by decide) (by decide) (by decide) (by decide)
    obtain ⟨b108, g108⟩ : ∃ z, z = h0.size := ⟨_, rfl⟩
    rw [← g108] at A108 st108
    have g_b108 : n0 ≤ b108 := Nat.le_trans (own_old_le O0) (Nat.le_of_eq g108.symm)
    refine own_to st108 ?_
    have O108 := O0.ext E108
    have Vn108 : Arv Z h108 b108 k108 .boolean (9 : Int32) [(.int (0 : Int32)), (.int (0 : Int32)), (.int (0 : Int32)), (.int (0 : Int32)), (.int (0 : Int32)), (.int (0 : Int32)), (.int (0 : Int32)), (.int (0 : Int32)), (.int (0 : Int32))] (.int (0 : Int32)) := (Arv.new A108 (by decide)).pad (pad_rep [] (.int (0 : Int32)) 9)
    show own_Ends _ _ _ _ (T108.setTop (mkF m 70 #[.val (.int z1), .val (.int z2), .val (.int 2), .val (.int 1), .val (.ref ra2), .val (.ref sp1), .unset, .unset, .unset] [(.ref b108)]))
    refine own_to (fun _ kont => XS.dup X108.here hx rfl (hb hby at_70) rfl rfl kont) ?_
    show own_Ends _ _ _ _ (T108.setTop (mkF m 71 #[.val (.int z1), .val (.int z2), .val (.int 2), .val (.int 1), .val (.ref ra2), .val (.ref sp1), .unset, .unset, .unset] [(.ref b108), (.ref b108)]))
    refine own_to (fun _ kont => XS.iconst X108.here hx rfl (hb hby at_71) kont) ?_
    show own_Ends _ _ _ _ (T108.setTop (mkF m 72 #[.val (.int z1), .val (.int z2), .val (.int 2), .val (.int 1), .val (.ref ra2), .val (.ref sp1), .unset, .unset, .unset] [(.int 0), (.ref b108), (.ref b108)]))
    refine own_to (fun _ kont => XS.iconst X108.here hx rfl (hb hby at_72) kont) ?_
    show own_Ends _ _ _ _ (T108.setTop (mkF m 73 #[.val (.int z1), .val (.int z2), .val (.int 2), .val (.int 1), .val (.ref ra2), .val (.ref sp1), .unset, .unset, .unset] [(.int 0), (.int 0), (.ref b108), (.ref b108)]))
    obtain ⟨cl109, Ar109, q109, S109, M109, H109, G109⟩ := Vn108
    have hin109 : ¬ ((0 : Int32) < 0 ∨ cl109.slots.size ≤ ((0 : Int32)).toNatClampNeg) := inb_of S109 ⟨by decide, by decide⟩
    obtain ⟨T109, h109, X109, e109, W109, st109⟩ := stZ X108 hx hZ e108 Ar109 (j := (0 : Int32)) hin109 (g := (mkF m 73 #[.val (.int z1), .val (.int z2), .val (.int (2 : Int32)), .val (.int (1 : Int32)), .val (.ref ra2), .val (.ref sp1), .unset, .unset, .unset] [(.int (0 : Int32)), (.int (0 : Int32)), (.ref b108), (.ref b108)])) rfl rfl (hb hby at_73)
    have Vs109 : Arv Z h109 b108 k108 .boolean (9 : Int32) [(.int (0 : Int32)), (.int (0 : Int32)), (.int (0 : Int32)), (.int (0 : Int32)), (.int (0 : Int32)), (.int (0 : Int32)), (.int (0 : Int32)), (.int (0 : Int32)), (.int (0 : Int32))] (.int (0 : Int32)) := Arv.set Ar109 q109 S109 M109 H109 G109 (fits_nar_bool _) W109 0 rfl (own_lt rfl)
    refine own_to st109 ?_
    have O109 := O108.wr W109 g_b108
    have N109 := Fr.snoc X109 N0 g_b108
    show own_Ends _ _ _ _ (T109.setTop (mkF m 74 #[.val (.int z1), .val (.int z2), .val (.int 2), .val (.int 1), .val (.ref ra2), .val (.ref sp1), .unset, .unset, .unset] [(.ref b108)]))
    refine own_to (fun _ kont => XS.dup X109.here hx rfl (hb hby at_74) rfl rfl kont) ?_
    show own_Ends _ _ _ _ (T109.setTop (mkF m 75 #[.val (.int z1), .val (.int z2), .val (.int 2), .val (.int 1), .val (.ref ra2), .val (.ref sp1), .unset, .unset, .unset] [(.ref b108), (.ref b108)]))
    refine own_to (fun _ kont => XS.iconst X109.here hx rfl (hb hby at_75) kont) ?_
    show own_Ends _ _ _ _ (T109.setTop (mkF m 76 #[.val (.int z1), .val (.int z2), .val (.int 2), .val (.int 1), .val (.ref ra2), .val (.ref sp1), .unset, .unset, .unset] [(.int 1), (.ref b108), (.ref b108)]))
    refine own_to (fun _ kont => XS.iconst X109.here hx rfl (hb hby at_76) kont) ?_
    show own_Ends _ _ _ _ (T109.setTop (mkF m 77 #[.val (.int z1), .val (.int z2), .val (.int 2), .val (.int 1), .val (.ref ra2), .val (.ref sp1), .unset, .unset, .unset] [(.int 1), (.int 1), (.ref b108), (.ref b108)]))
    obtain ⟨cl110, Ar110, q110, S110, M110, H110, G110⟩ := Vs109
    have hin110 : ¬ ((1 : Int32) < 0 ∨ cl110.slots.size ≤ ((1 : Int32)).toNatClampNeg) := inb_of S110 ⟨by decide, by decide⟩
    obtain ⟨T110, h110, X110, e110, W110, st110⟩ := stZ X109 hx hZ e109 Ar110 (j := (1 : Int32)) hin110 (g := (mkF m 77 #[.val (.int z1), .val (.int z2), .val (.int (2 : Int32)), .val (.int (1 : Int32)), .val (.ref ra2), .val (.ref sp1), .unset, .unset, .unset] [(.int (1 : Int32)), (.int (1 : Int32)), (.ref b108), (.ref b108)])) rfl rfl (hb hby at_77)
    have Vs110 : Arv Z h110 b108 k108 .boolean (9 : Int32) [(.int (0 : Int32)), (.int (1 : Int32)), (.int (0 : Int32)), (.int (0 : Int32)), (.int (0 : Int32)), (.int (0 : Int32)), (.int (0 : Int32)), (.int (0 : Int32)), (.int (0 : Int32))] (.int (0 : Int32)) := Arv.set Ar110 q110 S110 M110 H110 G110 (fits_nar_bool _) W110 1 rfl (own_lt rfl)
    refine own_to st110 ?_
    have O110 := O109.wr W110 g_b108
    have N110 := Fr.snoc X110 N109 g_b108
    show own_Ends _ _ _ _ (T110.setTop (mkF m 78 #[.val (.int z1), .val (.int z2), .val (.int 2), .val (.int 1), .val (.ref ra2), .val (.ref sp1), .unset, .unset, .unset] [(.ref b108)]))
    refine own_to (fun _ kont => XS.dup X110.here hx rfl (hb hby at_78) rfl rfl kont) ?_
    show own_Ends _ _ _ _ (T110.setTop (mkF m 79 #[.val (.int z1), .val (.int z2), .val (.int 2), .val (.int 1), .val (.ref ra2), .val (.ref sp1), .unset, .unset, .unset] [(.ref b108), (.ref b108)]))
    refine own_to (fun _ kont => XS.iconst X110.here hx rfl (hb hby at_79) kont) ?_
    show own_Ends _ _ _ _ (T110.setTop (mkF m 80 #[.val (.int z1), .val (.int z2), .val (.int 2), .val (.int 1), .val (.ref ra2), .val (.ref sp1), .unset, .unset, .unset] [(.int 2), (.ref b108), (.ref b108)]))
    refine own_to (fun _ kont => XS.iconst X110.here hx rfl (hb hby at_80) kont) ?_
    show own_Ends _ _ _ _ (T110.setTop (mkF m 81 #[.val (.int z1), .val (.int z2), .val (.int 2), .val (.int 1), .val (.ref ra2), .val (.ref sp1), .unset, .unset, .unset] [(.int 0), (.int 2), (.ref b108), (.ref b108)]))
    obtain ⟨cl111, Ar111, q111, S111, M111, H111, G111⟩ := Vs110
    have hin111 : ¬ ((2 : Int32) < 0 ∨ cl111.slots.size ≤ ((2 : Int32)).toNatClampNeg) := inb_of S111 ⟨by decide, by decide⟩
    obtain ⟨T111, h111, X111, e111, W111, st111⟩ := stZ X110 hx hZ e110 Ar111 (j := (2 : Int32)) hin111 (g := (mkF m 81 #[.val (.int z1), .val (.int z2), .val (.int (2 : Int32)), .val (.int (1 : Int32)), .val (.ref ra2), .val (.ref sp1), .unset, .unset, .unset] [(.int (0 : Int32)), (.int (2 : Int32)), (.ref b108), (.ref b108)])) rfl rfl (hb hby at_81)
    have Vs111 : Arv Z h111 b108 k108 .boolean (9 : Int32) [(.int (0 : Int32)), (.int (1 : Int32)), (.int (0 : Int32)), (.int (0 : Int32)), (.int (0 : Int32)), (.int (0 : Int32)), (.int (0 : Int32)), (.int (0 : Int32)), (.int (0 : Int32))] (.int (0 : Int32)) := Arv.set Ar111 q111 S111 M111 H111 G111 (fits_nar_bool _) W111 2 rfl (own_lt rfl)
    refine own_to st111 ?_
    have O111 := O110.wr W111 g_b108
    have N111 := Fr.snoc X111 N110 g_b108
    show own_Ends _ _ _ _ (T111.setTop (mkF m 82 #[.val (.int z1), .val (.int z2), .val (.int 2), .val (.int 1), .val (.ref ra2), .val (.ref sp1), .unset, .unset, .unset] [(.ref b108)]))
    refine own_to (fun _ kont => XS.dup X111.here hx rfl (hb hby at_82) rfl rfl kont) ?_
    show own_Ends _ _ _ _ (T111.setTop (mkF m 83 #[.val (.int z1), .val (.int z2), .val (.int 2), .val (.int 1), .val (.ref ra2), .val (.ref sp1), .unset, .unset, .unset] [(.ref b108), (.ref b108)]))
    refine own_to (fun _ kont => XS.iconst X111.here hx rfl (hb hby at_83) kont) ?_
    show own_Ends _ _ _ _ (T111.setTop (mkF m 84 #[.val (.int z1), .val (.int z2), .val (.int 2), .val (.int 1), .val (.ref ra2), .val (.ref sp1), .unset, .unset, .unset] [(.int 3), (.ref b108), (.ref b108)]))
    refine own_to (fun _ kont => XS.iconst X111.here hx rfl (hb hby at_84) kont) ?_
    show own_Ends _ _ _ _ (T111.setTop (mkF m 85 #[.val (.int z1), .val (.int z2), .val (.int 2), .val (.int 1), .val (.ref ra2), .val (.ref sp1), .unset, .unset, .unset] [(.int 1), (.int 3), (.ref b108), (.ref b108)]))
    obtain ⟨cl112, Ar112, q112, S112, M112, H112, G112⟩ := Vs111
    have hin112 : ¬ ((3 : Int32) < 0 ∨ cl112.slots.size ≤ ((3 : Int32)).toNatClampNeg) := inb_of S112 ⟨by decide, by decide⟩
    obtain ⟨T112, h112, X112, e112, W112, st112⟩ := stZ X111 hx hZ e111 Ar112 (j := (3 : Int32)) hin112 (g := (mkF m 85 #[.val (.int z1), .val (.int z2), .val (.int (2 : Int32)), .val (.int (1 : Int32)), .val (.ref ra2), .val (.ref sp1), .unset, .unset, .unset] [(.int (1 : Int32)), (.int (3 : Int32)), (.ref b108), (.ref b108)])) rfl rfl (hb hby at_85)
    have Vs112 : Arv Z h112 b108 k108 .boolean (9 : Int32) [(.int (0 : Int32)), (.int (1 : Int32)), (.int (0 : Int32)), (.int (1 : Int32)), (.int (0 : Int32)), (.int (0 : Int32)), (.int (0 : Int32)), (.int (0 : Int32)), (.int (0 : Int32))] (.int (0 : Int32)) := Arv.set Ar112 q112 S112 M112 H112 G112 (fits_nar_bool _) W112 3 rfl (own_lt rfl)
    refine own_to st112 ?_
    have O112 := O111.wr W112 g_b108
    have N112 := Fr.snoc X112 N111 g_b108
    show own_Ends _ _ _ _ (T112.setTop (mkF m 86 #[.val (.int z1), .val (.int z2), .val (.int 2), .val (.int 1), .val (.ref ra2), .val (.ref sp1), .unset, .unset, .unset] [(.ref b108)]))
    refine own_to (fun _ kont => XS.dup X112.here hx rfl (hb hby at_86) rfl rfl kont) ?_
    show own_Ends _ _ _ _ (T112.setTop (mkF m 87 #[.val (.int z1), .val (.int z2), .val (.int 2), .val (.int 1), .val (.ref ra2), .val (.ref sp1), .unset, .unset, .unset] [(.ref b108), (.ref b108)]))
    refine own_to (fun _ kont => XS.iconst X112.here hx rfl (hb hby at_87) kont) ?_
    show own_Ends _ _ _ _ (T112.setTop (mkF m 88 #[.val (.int z1), .val (.int z2), .val (.int 2), .val (.int 1), .val (.ref ra2), .val (.ref sp1), .unset, .unset, .unset] [(.int 4), (.ref b108), (.ref b108)]))
    refine own_to (fun _ kont => XS.iconst X112.here hx rfl (hb hby at_88) kont) ?_
    show own_Ends _ _ _ _ (T112.setTop (mkF m 89 #[.val (.int z1), .val (.int z2), .val (.int 2), .val (.int 1), .val (.ref ra2), .val (.ref sp1), .unset, .unset, .unset] [(.int 1), (.int 4), (.ref b108), (.ref b108)]))
    obtain ⟨cl113, Ar113, q113, S113, M113, H113, G113⟩ := Vs112
    have hin113 : ¬ ((4 : Int32) < 0 ∨ cl113.slots.size ≤ ((4 : Int32)).toNatClampNeg) := inb_of S113 ⟨by decide, by decide⟩
    obtain ⟨T113, h113, X113, e113, W113, st113⟩ := stZ X112 hx hZ e112 Ar113 (j := (4 : Int32)) hin113 (g := (mkF m 89 #[.val (.int z1), .val (.int z2), .val (.int (2 : Int32)), .val (.int (1 : Int32)), .val (.ref ra2), .val (.ref sp1), .unset, .unset, .unset] [(.int (1 : Int32)), (.int (4 : Int32)), (.ref b108), (.ref b108)])) rfl rfl (hb hby at_89)
    have Vs113 : Arv Z h113 b108 k108 .boolean (9 : Int32) [(.int (0 : Int32)), (.int (1 : Int32)), (.int (0 : Int32)), (.int (1 : Int32)), (.int (1 : Int32)), (.int (0 : Int32)), (.int (0 : Int32)), (.int (0 : Int32)), (.int (0 : Int32))] (.int (0 : Int32)) := Arv.set Ar113 q113 S113 M113 H113 G113 (fits_nar_bool _) W113 4 rfl (own_lt rfl)
    refine own_to st113 ?_
    have O113 := O112.wr W113 g_b108
    have N113 := Fr.snoc X113 N112 g_b108
    show own_Ends _ _ _ _ (T113.setTop (mkF m 90 #[.val (.int z1), .val (.int z2), .val (.int 2), .val (.int 1), .val (.ref ra2), .val (.ref sp1), .unset, .unset, .unset] [(.ref b108)]))
    refine own_to (fun _ kont => XS.dup X113.here hx rfl (hb hby at_90) rfl rfl kont) ?_
    show own_Ends _ _ _ _ (T113.setTop (mkF m 91 #[.val (.int z1), .val (.int z2), .val (.int 2), .val (.int 1), .val (.ref ra2), .val (.ref sp1), .unset, .unset, .unset] [(.ref b108), (.ref b108)]))
    refine own_to (fun _ kont => XS.iconst X113.here hx rfl (hb hby at_91) kont) ?_
    show own_Ends _ _ _ _ (T113.setTop (mkF m 92 #[.val (.int z1), .val (.int z2), .val (.int 2), .val (.int 1), .val (.ref ra2), .val (.ref sp1), .unset, .unset, .unset] [(.int 5), (.ref b108), (.ref b108)]))
    refine own_to (fun _ kont => XS.iconst X113.here hx rfl (hb hby at_92) kont) ?_
    show own_Ends _ _ _ _ (T113.setTop (mkF m 93 #[.val (.int z1), .val (.int z2), .val (.int 2), .val (.int 1), .val (.ref ra2), .val (.ref sp1), .unset, .unset, .unset] [(.int 1), (.int 5), (.ref b108), (.ref b108)]))
    obtain ⟨cl114, Ar114, q114, S114, M114, H114, G114⟩ := Vs113
    have hin114 : ¬ ((5 : Int32) < 0 ∨ cl114.slots.size ≤ ((5 : Int32)).toNatClampNeg) := inb_of S114 ⟨by decide, by decide⟩
    obtain ⟨T114, h114, X114, e114, W114, st114⟩ := stZ X113 hx hZ e113 Ar114 (j := (5 : Int32)) hin114 (g := (mkF m 93 #[.val (.int z1), .val (.int z2), .val (.int (2 : Int32)), .val (.int (1 : Int32)), .val (.ref ra2), .val (.ref sp1), .unset, .unset, .unset] [(.int (1 : Int32)), (.int (5 : Int32)), (.ref b108), (.ref b108)])) rfl rfl (hb hby at_93)
    have Vs114 : Arv Z h114 b108 k108 .boolean (9 : Int32) [(.int (0 : Int32)), (.int (1 : Int32)), (.int (0 : Int32)), (.int (1 : Int32)), (.int (1 : Int32)), (.int (1 : Int32)), (.int (0 : Int32)), (.int (0 : Int32)), (.int (0 : Int32))] (.int (0 : Int32)) := Arv.set Ar114 q114 S114 M114 H114 G114 (fits_nar_bool _) W114 5 rfl (own_lt rfl)
    refine own_to st114 ?_
    have O114 := O113.wr W114 g_b108
    have N114 := Fr.snoc X114 N113 g_b108
    show own_Ends _ _ _ _ (T114.setTop (mkF m 94 #[.val (.int z1), .val (.int z2), .val (.int 2), .val (.int 1), .val (.ref ra2), .val (.ref sp1), .unset, .unset, .unset] [(.ref b108)]))
    refine own_to (fun _ kont => XS.dup X114.here hx rfl (hb hby at_94) rfl rfl kont) ?_
    show own_Ends _ _ _ _ (T114.setTop (mkF m 95 #[.val (.int z1), .val (.int z2), .val (.int 2), .val (.int 1), .val (.ref ra2), .val (.ref sp1), .unset, .unset, .unset] [(.ref b108), (.ref b108)]))
    refine own_to (fun _ kont => XS.bipush X114.here hx rfl (hb hby at_95) kont) ?_
    show own_Ends _ _ _ _ (T114.setTop (mkF m 97 #[.val (.int z1), .val (.int z2), .val (.int 2), .val (.int 1), .val (.ref ra2), .val (.ref sp1), .unset, .unset, .unset] [(.int 6), (.ref b108), (.ref b108)]))
    refine own_to (fun _ kont => XS.iconst X114.here hx rfl (hb hby at_97) kont) ?_
    show own_Ends _ _ _ _ (T114.setTop (mkF m 98 #[.val (.int z1), .val (.int z2), .val (.int 2), .val (.int 1), .val (.ref ra2), .val (.ref sp1), .unset, .unset, .unset] [(.int 0), (.int 6), (.ref b108), (.ref b108)]))
    obtain ⟨cl115, Ar115, q115, S115, M115, H115, G115⟩ := Vs114
    have hin115 : ¬ ((6 : Int32) < 0 ∨ cl115.slots.size ≤ ((6 : Int32)).toNatClampNeg) := inb_of S115 ⟨by decide, by decide⟩
    obtain ⟨T115, h115, X115, e115, W115, st115⟩ := stZ X114 hx hZ e114 Ar115 (j := (6 : Int32)) hin115 (g := (mkF m 98 #[.val (.int z1), .val (.int z2), .val (.int (2 : Int32)), .val (.int (1 : Int32)), .val (.ref ra2), .val (.ref sp1), .unset, .unset, .unset] [(.int (0 : Int32)), (.int (6 : Int32)), (.ref b108), (.ref b108)])) rfl rfl (hb hby at_98)
    have Vs115 : Arv Z h115 b108 k108 .boolean (9 : Int32) [(.int (0 : Int32)), (.int (1 : Int32)), (.int (0 : Int32)), (.int (1 : Int32)), (.int (1 : Int32)), (.int (1 : Int32)), (.int (0 : Int32)), (.int (0 : Int32)), (.int (0 : Int32))] (.int (0 : Int32)) := Arv.set Ar115 q115 S115 M115 H115 G115 (fits_nar_bool _) W115 6 rfl (own_lt rfl)
    refine own_to st115 ?_
    have O115 := O114.wr W115 g_b108
    have N115 := Fr.snoc X115 N114 g_b108
    show own_Ends _ _ _ _ (T115.setTop (mkF m 99 #[.val (.int z1), .val (.int z2), .val (.int 2), .val (.int 1), .val (.ref ra2), .val (.ref sp1), .unset, .unset, .unset] [(.ref b108)]))
    refine own_to (fun _ kont => XS.dup X115.here hx rfl (hb hby at_99) rfl rfl kont) ?_
    show own_Ends _ _ _ _ (T115.setTop (mkF m 100 #[.val (.int z1), .val (.int z2), .val (.int 2), .val (.int 1), .val (.ref ra2), .val (.ref sp1), .unset, .unset, .unset] [(.ref b108), (.ref b108)]))
    refine own_to (fun _ kont => XS.bipush X115.here hx rfl (hb hby at_100) kont) ?_
    show own_Ends _ _ _ _ (T115.setTop (mkF m 102 #[.val (.int z1), .val (.int z2), .val (.int 2), .val (.int 1), .val (.ref ra2), .val (.ref sp1), .unset, .unset, .unset] [(.int 7), (.ref b108), (.ref b108)]))
    refine own_to (fun _ kont => XS.iconst X115.here hx rfl (hb hby at_102) kont) ?_
    show own_Ends _ _ _ _ (T115.setTop (mkF m 103 #[.val (.int z1), .val (.int z2), .val (.int 2), .val (.int 1), .val (.ref ra2), .val (.ref sp1), .unset, .unset, .unset] [(.int 1), (.int 7), (.ref b108), (.ref b108)]))
    obtain ⟨cl116, Ar116, q116, S116, M116, H116, G116⟩ := Vs115
    have hin116 : ¬ ((7 : Int32) < 0 ∨ cl116.slots.size ≤ ((7 : Int32)).toNatClampNeg) := inb_of S116 ⟨by decide, by decide⟩
    obtain ⟨T116, h116, X116, e116, W116, st116⟩ := stZ X115 hx hZ e115 Ar116 (j := (7 : Int32)) hin116 (g := (mkF m 103 #[.val (.int z1), .val (.int z2), .val (.int (2 : Int32)), .val (.int (1 : Int32)), .val (.ref ra2), .val (.ref sp1), .unset, .unset, .unset] [(.int (1 : Int32)), (.int (7 : Int32)), (.ref b108), (.ref b108)])) rfl rfl (hb hby at_103)
    have Vs116 : Arv Z h116 b108 k108 .boolean (9 : Int32) [(.int (0 : Int32)), (.int (1 : Int32)), (.int (0 : Int32)), (.int (1 : Int32)), (.int (1 : Int32)), (.int (1 : Int32)), (.int (0 : Int32)), (.int (1 : Int32)), (.int (0 : Int32))] (.int (0 : Int32)) := Arv.set Ar116 q116 S116 M116 H116 G116 (fits_nar_bool _) W116 7 rfl (own_lt rfl)
    refine own_to st116 ?_
    have O116 := O115.wr W116 g_b108
    have N116 := Fr.snoc X116 N115 g_b108
    show own_Ends _ _ _ _ (T116.setTop (mkF m 104 #[.val (.int z1), .val (.int z2), .val (.int 2), .val (.int 1), .val (.ref ra2), .val (.ref sp1), .unset, .unset, .unset] [(.ref b108)]))
    refine own_to (fun _ kont => XS.dup X116.here hx rfl (hb hby at_104) rfl rfl kont) ?_
    show own_Ends _ _ _ _ (T116.setTop (mkF m 105 #[.val (.int z1), .val (.int z2), .val (.int 2), .val (.int 1), .val (.ref ra2), .val (.ref sp1), .unset, .unset, .unset] [(.ref b108), (.ref b108)]))
    refine own_to (fun _ kont => XS.bipush X116.here hx rfl (hb hby at_105) kont) ?_
    show own_Ends _ _ _ _ (T116.setTop (mkF m 107 #[.val (.int z1), .val (.int z2), .val (.int 2), .val (.int 1), .val (.ref ra2), .val (.ref sp1), .unset, .unset, .unset] [(.int 8), (.ref b108), (.ref b108)]))
    refine own_to (fun _ kont => XS.iconst X116.here hx rfl (hb hby at_107) kont) ?_
    show own_Ends _ _ _ _ (T116.setTop (mkF m 108 #[.val (.int z1), .val (.int z2), .val (.int 2), .val (.int 1), .val (.ref ra2), .val (.ref sp1), .unset, .unset, .unset] [(.int 0), (.int 8), (.ref b108), (.ref b108)]))
    obtain ⟨cl117, Ar117, q117, S117, M117, H117, G117⟩ := Vs116
    have hin117 : ¬ ((8 : Int32) < 0 ∨ cl117.slots.size ≤ ((8 : Int32)).toNatClampNeg) := inb_of S117 ⟨by decide, by decide⟩
    obtain ⟨T117, h117, X117, e117, W117, st117⟩ := stZ X116 hx hZ e116 Ar117 (j := (8 : Int32)) hin117 (g := (mkF m 108 #[.val (.int z1), .val (.int z2), .val (.int (2 : Int32)), .val (.int (1 : Int32)), .val (.ref ra2), .val (.ref sp1), .unset, .unset, .unset] [(.int (0 : Int32)), (.int (8 : Int32)), (.ref b108), (.ref b108)])) rfl rfl (hb hby at_108)
    have Vs117 : Arv Z h117 b108 k108 .boolean (9 : Int32) [(.int (0 : Int32)), (.int (1 : Int32)), (.int (0 : Int32)), (.int (1 : Int32)), (.int (1 : Int32)), (.int (1 : Int32)), (.int (0 : Int32)), (.int (1 : Int32)), (.int (0 : Int32))] (.int (0 : Int32)) := Arv.set Ar117 q117 S117 M117 H117 G117 (fits_nar_bool _) W117 8 rfl (own_lt rfl)
    refine own_to st117 ?_
    have O117 := O116.wr W117 g_b108
    have N117 := Fr.snoc X117 N116 g_b108
    show own_Ends _ _ _ _ (T117.setTop (mkF m 109 #[.val (.int z1), .val (.int z2), .val (.int 2), .val (.int 1), .val (.ref ra2), .val (.ref sp1), .unset, .unset, .unset] [(.ref b108)]))
    refine own_to (fun _ kont => XS.astore X117.here hx rfl (hb hby at_109) rfl rfl (l' := #[.val (.int z1), .val (.int z2), .val (.int (2 : Int32)), .val (.int (1 : Int32)), .val (.ref ra2), .val (.ref sp1), .val (.ref b108), .unset, .unset]) rfl kont) ?_
    show own_Ends _ _ _ _ (T117.setTop (mkF m 111 #[.val (.int z1), .val (.int z2), .val (.int 2), .val (.int 1), .val (.ref ra2), .val (.ref sp1), .val (.ref b108), .unset, .unset] []))
    refine own_to (fun _ kont => XS.aload X117.here hx rfl (hb hby at_111) rfl rfl kont) ?_
    show own_Ends _ _ _ _ (T117.setTop (mkF m 113 #[.val (.int z1), .val (.int z2), .val (.int 2), .val (.int 1), .val (.ref ra2), .val (.ref sp1), .val (.ref b108), .unset, .unset] [(.ref b108)]))
    refine own_to (fun _ kont => XS.iloadN X117.here hx rfl (hb hby at_113) rfl kont) ?_
    show own_Ends _ _ _ _ (T117.setTop (mkF m 114 #[.val (.int z1), .val (.int z2), .val (.int 2), .val (.int 1), .val (.ref ra2), .val (.ref sp1), .val (.ref b108), .unset, .unset] [(.int 2), (.ref b108)]))
    refine own_to (fun _ kont => XS.iconst X117.here hx rfl (hb hby at_114) kont) ?_
    show own_Ends _ _ _ _ (T117.setTop (mkF m 115 #[.val (.int z1), .val (.int z2), .val (.int 2), .val (.int 1), .val (.ref ra2), .val (.ref sp1), .val (.ref b108), .unset, .unset] [(.int 3), (.int 2), (.ref b108)]))
    refine own_to (fun _ kont => XS.imul X117.here hx rfl (hb hby at_115) rfl kont) ?_
    show own_Ends _ _ _ _ (T117.setTop (mkF m 116 #[.val (.int z1), .val (.int z2), .val (.int 2), .val (.int 1), .val (.ref ra2), .val (.ref sp1), .val (.ref b108), .unset, .unset] [(.int 6), (.ref b108)]))
    refine own_to (fun _ kont => XS.iloadN X117.here hx rfl (hb hby at_116) rfl kont) ?_
    show own_Ends _ _ _ _ (T117.setTop (mkF m 117 #[.val (.int z1), .val (.int z2), .val (.int 2), .val (.int 1), .val (.ref ra2), .val (.ref sp1), .val (.ref b108), .unset, .unset] [(.int 1), (.int 6), (.ref b108)]))
    refine own_to (fun _ kont => XS.iadd X117.here hx rfl (hb hby at_117) rfl kont) ?_
    show own_Ends _ _ _ _ (T117.setTop (mkF m 118 #[.val (.int z1), .val (.int z2), .val (.int 2), .val (.int 1), .val (.ref ra2), .val (.ref sp1), .val (.ref b108), .unset, .unset] [(.int 7), (.ref b108)]))
    obtain ⟨cl118, Ar118, q118, S118, M118, H118, G118⟩ := Vs117
    have hin118 : ¬ ((7 : Int32) < 0 ∨ cl118.slots.size ≤ ((7 : Int32)).toNatClampNeg) := inb_of S118 ⟨by decide, by decide⟩
    have hat118 : cl118.slots[((7 : Int32)).toNatClampNeg]? = some (.int (1 : Int32)) := Has.at H118 hin118 rfl
    refine own_to (fun _ kont => X117.baloadBooleans hx (j := (7 : Int32)) (v := (.int (1 : Int32))) (by rw [e117]; exact Ar118.1) (State.isArrayOf_alike hZ.alike Ar118.2.1) Ar118.2.2 hin118 hat118 (g := (mkF m 118 #[.val (.int z1), .val (.int z2), .val (.int (2 : Int32)), .val (.int (1 : Int32)), .val (.ref ra2), .val (.ref sp1), .val (.ref b108), .unset, .unset] [(.int (7 : Int32)), (.ref b108)])) rfl rfl (hb hby at_118) _ kont) ?_
    show own_Ends _ _ _ _ (T117.setTop (mkF m 119 #[.val (.int z1), .val (.int z2), .val (.int 2), .val (.int 1), .val (.ref ra2), .val (.ref sp1), .val (.ref b108), .unset, .unset] [(.int 1)]))
    refine own_to (fun _ kont => XS.ifNo X117.here hx rfl (hb hby at_119) rfl ((if0 _ _).trans (feq (by decide)).1) kont) ?_
    show own_Ends _ _ _ _ (T117.setTop (mkF m 122 #[.val (.int z1), .val (.int z2), .val (.int 2), .val (.int 1), .val (.ref ra2), .val (.ref sp1), .val (.ref b108), .unset, .unset] []))
    obtain ⟨T119, X119, e119, st119⟩ := getS2 X117 hx hZ hown (host := "") (Or.inl (ow22 hw)) Via.refl e117 (S_el1.ext O117.2) (g := (mkF m 122 #[.val (.int z1), .val (.int z2), .val (.int (2 : Int32)), .val (.int (1 : Int32)), .val (.ref ra2), .val (.ref sp1), .val (.ref b108), .unset, .unset] [])) rfl (hb hby at_122)
    refine own_to st119 ?_
    show own_Ends _ _ _ _ (T119.setTop (mkF m 125 #[.val (.int z1), .val (.int z2), .val (.int 2), .val (.int 1), .val (.ref ra2), .val (.ref sp1), .val (.ref b108), .unset, .unset] [(.ref el1)]))
    refine own_to (fun _ kont => XS.goto X119.here hx rfl (pc0 := 125) (pc' := 131) rfl (hb hby at_125) (by decide) (by decide) kont) ?_
    show own_Ends _ _ _ _ (T119.setTop (mkF m 131 #[.val (.int z1), .val (.int z2), .val (.int 2), .val (.int 1), .val (.ref ra2), .val (.ref sp1), .val (.ref b108), .unset, .unset] [(.ref el1)]))
    refine own_to (fun _ kont => XS.astore X119.here hx rfl (hb hby at_131) rfl rfl (l' := #[.val (.int z1), .val (.int z2), .val (.int (2 : Int32)), .val (.int (1 : Int32)), .val (.ref ra2), .val (.ref sp1), .val (.ref b108), .val (.ref el1), .unset]) rfl kont) ?_
    show own_Ends _ _ _ _ (T119.setTop (mkF m 133 #[.val (.int z1), .val (.int z2), .val (.int 2), .val (.int 1), .val (.ref ra2), .val (.ref sp1), .val (.ref b108), .val (.ref el1), .unset] []))
    refine own_to (fun _ kont => XS.aload X119.here hx rfl (hb hby at_133) rfl rfl kont) ?_
    show own_Ends _ _ _ _ (T119.setTop (mkF m 135 #[.val (.int z1), .val (.int z2), .val (.int 2), .val (.int 1), .val (.ref ra2), .val (.ref sp1), .val (.ref b108), .val (.ref el1), .unset] [(.ref ra2)]))
    refine own_to (fun _ kont => XS.aload X119.here hx rfl (hb hby at_135) rfl rfl kont) ?_
    show own_Ends _ _ _ _ (T119.setTop (mkF m 137 #[.val (.int z1), .val (.int z2), .val (.int 2), .val (.int 1), .val (.ref ra2), .val (.ref sp1), .val (.ref b108), .val (.ref el1), .unset] [(.ref sp1), (.ref ra2)]))
    obtain ⟨_, _, ⟨T120, L120, k120, n120⟩, -, X120, ⟨Lc120, hQ120, l120, y120, z120⟩, st120⟩ := Jvm.LawKit.callS X119 hx (y := oM0) hown (mvT hZ (ow11 hw)) (mvT hZ (ow12 hw)) (mvT hZ (ow9 hw)) (mvT hZ (ow13 hw)) (by decide) (backOf (W := 0) (rm1 l Z a0 hw [] ra2 sp1 ra1 sp1 el1 el0 h117 n0 O117 S_ra1 S_sp1 S_el1 S_el0) hZ (ow13 hw) (ow9 hw) (by decide) (by decide)) (g := (mkF m 137 #[.val (.int z1), .val (.int z2), .val (.int (2 : Int32)), .val (.int (1 : Int32)), .val (.ref ra2), .val (.ref sp1), .val (.ref b108), .val (.ref el1), .unset] [(.ref sp1), (.ref ra2)])) rfl (by rw [hml]; rfl) (argsL := [(.ref ra2), (.ref sp1)]) (rest := []) (lenOf pd_0 rfl) rfl (by show 2 * 0 + _ ≤ _; exact Nat.le_of_eq rfl) (hb hby at_137) (fun _ _ => ⟨rfl, e119, (own_le rfl), (own_le rfl)⟩)
    dsimp only [Pt.U, Pt.locs, Pt.cells, Pt.slots] at X120 l120 y120 z120 st120 hQ120
    subst l120 y120 z120
    obtain ⟨hv120, N120q, E120⟩ := hQ120
    rw [own_of2 (Fld.ne F_ra2 F_ra1 (own_intne (by decide)))] at hv120
    subst hv120
    have N120 := Fr.app N117 N120q
    refine own_to st120 ?_
    show own_Ends _ _ _ _ (T120.setTop (mkF m 140 #[.val (.int z1), .val (.int z2), .val (.int 2), .val (.int 1), .val (.ref ra2), .val (.ref sp1), .val (.ref b108), .val (.ref el1), .unset] [(.ref el1)]))
    refine own_to (fun _ kont => XS.astore X120.here hx rfl (hb hby at_140) rfl rfl (l' := #[.val (.int z1), .val (.int z2), .val (.int (2 : Int32)), .val (.int (1 : Int32)), .val (.ref ra2), .val (.ref sp1), .val (.ref b108), .val (.ref el1), .val (.ref el1)]) rfl kont) ?_
    show own_Ends _ _ _ _ (T120.setTop (mkF m 142 #[.val (.int z1), .val (.int z2), .val (.int 2), .val (.int 1), .val (.ref ra2), .val (.ref sp1), .val (.ref b108), .val (.ref el1), .val (.ref el1)] []))
    refine own_to (fun _ kont => XS.aload X120.here hx rfl (hb hby at_142) rfl rfl kont) ?_
    show own_Ends _ _ _ _ (T120.setTop (mkF m 144 #[.val (.int z1), .val (.int z2), .val (.int 2), .val (.int 1), .val (.ref ra2), .val (.ref sp1), .val (.ref b108), .val (.ref el1), .val (.ref el1)] [(.ref el1)]))
    refine own_to (fun _ kont => XS.ifnullNo X120.here hx rfl (hb hby at_144) rfl kont) ?_
    show own_Ends _ _ _ _ (T120.setTop (mkF m 147 #[.val (.int z1), .val (.int z2), .val (.int 2), .val (.int 1), .val (.ref ra2), .val (.ref sp1), .val (.ref b108), .val (.ref el1), .val (.ref el1)] []))
    refine own_to (fun _ kont => XS.aload X120.here hx rfl (hb hby at_147) rfl rfl kont) ?_
    show own_Ends _ _ _ _ (T120.setTop (mkF m 149 #[.val (.int z1), .val (.int z2), .val (.int 2), .val (.int 1), .val (.ref ra2), .val (.ref sp1), .val (.ref b108), .val (.ref el1), .val (.ref el1)] [(.ref el1)]))
    refine own_to (fun _ kont => XS.aload X120.here hx rfl (hb hby at_149) rfl rfl kont) ?_
    show own_Ends _ _ _ _ (T120.setTop (mkF m 151 #[.val (.int z1), .val (.int z2), .val (.int 2), .val (.int 1), .val (.ref ra2), .val (.ref sp1), .val (.ref b108), .val (.ref el1), .val (.ref el1)] [(.ref el1), (.ref el1)]))
    refine own_to (fun _ kont => Jvm.RoadKit.acmp (g := (mkF m 151 #[.val (.int z1), .val (.int z2), .val (.int (2 : Int32)), .val (.int (1 : Int32)), .val (.ref ra2), .val (.ref sp1), .val (.ref b108), .val (.ref el1), .val (.ref el1)] [(.ref el1), (.ref el1)])) X120 hx rfl rfl rfl (pc0 := 151) (pc' := 154) (same := true) rfl (hb hby at_151) rfl (decide_eq_true rfl) (by decide) (by decide) kont) ?_
    show own_Ends _ _ _ _ (T120.setTop (mkF m 154 #[.val (.int z1), .val (.int z2), .val (.int 2), .val (.int 1), .val (.ref ra2), .val (.ref sp1), .val (.ref b108), .val (.ref el1), .val (.ref el1)] []))
    refine own_to (fun _ kont => XS.iconst X120.here hx rfl (hb hby at_154) kont) ?_
    show own_Ends _ _ _ _ (T120.setTop (mkF m 155 #[.val (.int z1), .val (.int z2), .val (.int 2), .val (.int 1), .val (.ref ra2), .val (.ref sp1), .val (.ref b108), .val (.ref el1), .val (.ref el1)] [(.int 1)]))
    refine own_to (fun _ kont => XS.goto X120.here hx rfl (pc0 := 155) (pc' := 159) rfl (hb hby at_155) (by decide) (by decide) kont) ?_
    show own_Ends _ _ _ _ (T120.setTop (mkF m 159 #[.val (.int z1), .val (.int z2), .val (.int 2), .val (.int 1), .val (.ref ra2), .val (.ref sp1), .val (.ref b108), .val (.ref el1), .val (.ref el1)] [(.int 1)]))
    refine own_leave X120 (v := some (.int (1 : Int32))) (fun h => by rw [Bd.returns] at h; cases h) ?_ (by decide) (by decide) (fun fs hr => retN X120 hx (t := .boolean) Bd.returns (by simp) (hb hby at_159) hr)
    show Q_rm0 Z z1 z2 ra0 sp0 ra1 sp1 ra2 sp2 el0 el1 h0 n0 _ T120.heap _
    rw [E120]
    exact ⟨rfl, N120⟩
  · skip
    show own_Ends _ _ _ _ (s₁.setTop (mkF m 14 #[.val (.int z1), .val (.int z2), .val (.int 2), .val (.int 2), .unset, .unset, .unset, .unset, .unset] []))
    refine own_to (fun _ kont => XS.iloadN X0.here hx rfl (hb hby at_14) rfl kont) ?_
    show own_Ends _ _ _ _ (s₁.setTop (mkF m 15 #[.val (.int z1), .val (.int z2), .val (.int 2), .val (.int 2), .unset, .unset, .unset, .unset, .unset] [(.int 2)]))
    refine own_to (fun _ kont => XS.ifYes X0.here hx rfl (pc0 := 15) (pc' := 24) rfl (hb hby at_15) rfl ((if0 _ _).trans (feq (by decide)).2) (by decide) (by decide) kont) ?_
    show own_Ends _ _ _ _ (s₁.setTop (mkF m 24 #[.val (.int z1), .val (.int z2), .val (.int 2), .val (.int 2), .unset, .unset, .unset, .unset, .unset] []))
    refine own_to (fun _ kont => XS.iloadN X0.here hx rfl (hb hby at_24) rfl kont) ?_
    show own_Ends _ _ _ _ (s₁.setTop (mkF m 25 #[.val (.int z1), .val (.int z2), .val (.int 2), .val (.int 2), .unset, .unset, .unset, .unset, .unset] [(.int 2)]))
    refine own_to (fun _ kont => XS.iconst X0.here hx rfl (hb hby at_25) kont) ?_
    show own_Ends _ _ _ _ (s₁.setTop (mkF m 26 #[.val (.int z1), .val (.int z2), .val (.int 2), .val (.int 2), .unset, .unset, .unset, .unset, .unset] [(.int 1), (.int 2)]))
    refine own_to (fun _ kont => XS.icmpYes X0.here hx rfl (pc0 := 26) (pc' := 35) rfl (hb hby at_26) rfl (feq (by decide)).2 (by decide) (by decide) kont) ?_
    show own_Ends _ _ _ _ (s₁.setTop (mkF m 35 #[.val (.int z1), .val (.int z2), .val (.int 2), .val (.int 2), .unset, .unset, .unset, .unset, .unset] []))
    obtain ⟨T121, X121, e121, st121⟩ := getS2 X0 hx hZ hown (host := "") (Or.inl (ow19 hw)) Via.refl e0 (S_ra2.ext O0.2) (g := (mkF m 35 #[.val (.int z1), .val (.int z2), .val (.int (2 : Int32)), .val (.int (2 : Int32)), .unset, .unset, .unset, .unset, .unset] [])) rfl (hb hby at_35)
    refine own_to st121 ?_
    show own_Ends _ _ _ _ (T121.setTop (mkF m 38 #[.val (.int z1), .val (.int z2), .val (.int 2), .val (.int 2), .unset, .unset, .unset, .unset, .unset] [(.ref ra2)]))
    refine own_to (fun _ kont => XS.astore X121.here hx rfl (hb hby at_38) rfl rfl (l' := #[.val (.int z1), .val (.int z2), .val (.int (2 : Int32)), .val (.int (2 : Int32)), .val (.ref ra2), .unset, .unset, .unset, .unset]) rfl kont) ?_
    show own_Ends _ _ _ _ (T121.setTop (mkF m 40 #[.val (.int z1), .val (.int z2), .val (.int 2), .val (.int 2), .val (.ref ra2), .unset, .unset, .unset, .unset] []))
    refine own_to (fun _ kont => XS.iloadN X121.here hx rfl (hb hby at_40) rfl kont) ?_
    show own_Ends _ _ _ _ (T121.setTop (mkF m 41 #[.val (.int z1), .val (.int z2), .val (.int 2), .val (.int 2), .val (.ref ra2), .unset, .unset, .unset, .unset] [(.int 2)]))
    refine own_to (fun _ kont => XS.ifYes X121.here hx rfl (pc0 := 41) (pc' := 50) rfl (hb hby at_41) rfl ((if0 _ _).trans (feq (by decide)).2) (by decide) (by decide) kont) ?_
    show own_Ends _ _ _ _ (T121.setTop (mkF m 50 #[.val (.int z1), .val (.int z2), .val (.int 2), .val (.int 2), .val (.ref ra2), .unset, .unset, .unset, .unset] []))
    refine own_to (fun _ kont => XS.iloadN X121.here hx rfl (hb hby at_50) rfl kont) ?_
    show own_Ends _ _ _ _ (T121.setTop (mkF m 51 #[.val (.int z1), .val (.int z2), .val (.int 2), .val (.int 2), .val (.ref ra2), .unset, .unset, .unset, .unset] [(.int 2)]))
    refine own_to (fun _ kont => XS.iconst X121.here hx rfl (hb hby at_51) kont) ?_
    show own_Ends _ _ _ _ (T121.setTop (mkF m 52 #[.val (.int z1), .val (.int z2), .val (.int 2), .val (.int 2), .val (.ref ra2), .unset, .unset, .unset, .unset] [(.int 1), (.int 2)]))
    refine own_to (fun _ kont => XS.icmpYes X121.here hx rfl (pc0 := 52) (pc' := 61) rfl (hb hby at_52) rfl (feq (by decide)).2 (by decide) (by decide) kont) ?_
    show own_Ends _ _ _ _ (T121.setTop (mkF m 61 #[.val (.int z1), .val (.int z2), .val (.int 2), .val (.int 2), .val (.ref ra2), .unset, .unset, .unset, .unset] []))
    obtain ⟨T122, X122, e122, st122⟩ := getS2 X121 hx hZ hown (host := "") (Or.inl (ow25 hw)) Via.refl e121 (S_sp2.ext O0.2) (g := (mkF m 61 #[.val (.int z1), .val (.int z2), .val (.int (2 : Int32)), .val (.int (2 : Int32)), .val (.ref ra2), .unset, .unset, .unset, .unset] [])) rfl (hb hby at_61)
    refine own_to st122 ?_
    show own_Ends _ _ _ _ (T122.setTop (mkF m 64 #[.val (.int z1), .val (.int z2), .val (.int 2), .val (.int 2), .val (.ref ra2), .unset, .unset, .unset, .unset] [(.ref sp2)]))
    refine own_to (fun _ kont => XS.astore X122.here hx rfl (hb hby at_64) rfl rfl (l' := #[.val (.int z1), .val (.int z2), .val (.int (2 : Int32)), .val (.int (2 : Int32)), .val (.ref ra2), .val (.ref sp2), .unset, .unset, .unset]) rfl kont) ?_
    show own_Ends _ _ _ _ (T122.setTop (mkF m 66 #[.val (.int z1), .val (.int z2), .val (.int 2), .val (.int 2), .val (.ref ra2), .val (.ref sp2), .unset, .unset, .unset] []))
    refine own_to (fun _ kont => XS.bipush X122.here hx rfl (hb hby at_66) kont) ?_
    show own_Ends _ _ _ _ (T122.setTop (mkF m 68 #[.val (.int z1), .val (.int z2), .val (.int 2), .val (.int 2), .val (.ref ra2), .val (.ref sp2), .unset, .unset, .unset] [(.int 9)]))
    obtain ⟨T123, h123, k123, X123, e123, E123, A123, st123⟩ := newP X122 hx hZ (aty := .boolean) (ow7 hw) e122 (g := (mkF m 68 #[.val (.int z1), .val (.int z2), .val (.int (2 : Int32)), .val (.int (2 : Int32)), .val (.ref ra2), .val (.ref sp2), .unset, .unset, .unset] [(.int (9 : Int32))])) rfl (hb hby at_68) rfl (by decide) (cap := 9) (by decide) (by decide) (by decide) (by decide)
    obtain ⟨b123, g123⟩ : ∃ z, z = h0.size := ⟨_, rfl⟩
    rw [← g123] at A123 st123
    have g_b123 : n0 ≤ b123 := Nat.le_trans (own_old_le O0) (Nat.le_of_eq g123.symm)
    refine own_to st123 ?_
    have O123 := O0.ext E123
    have Vn123 : Arv Z h123 b123 k123 .boolean (9 : Int32) [(.int (0 : Int32)), (.int (0 : Int32)), (.int (0 : Int32)), (.int (0 : Int32)), (.int (0 : Int32)), (.int (0 : Int32)), (.int (0 : Int32)), (.int (0 : Int32)), (.int (0 : Int32))] (.int (0 : Int32)) := (Arv.new A123 (by decide)).pad (pad_rep [] (.int (0 : Int32)) 9)
    show own_Ends _ _ _ _ (T123.setTop (mkF m 70 #[.val (.int z1), .val (.int z2), .val (.int 2), .val (.int 2), .val (.ref ra2), .val (.ref sp2), .unset, .unset, .unset] [(.ref b123)]))
    refine own_to (fun _ kont => XS.dup X123.here hx rfl (hb hby at_70) rfl rfl kont) ?_
    show own_Ends _ _ _ _ (T123.setTop (mkF m 71 #[.val (.int z1), .val (.int z2), .val (.int 2), .val (.int 2), .val (.ref ra2), .val (.ref sp2), .unset, .unset, .unset] [(.ref b123), (.ref b123)]))
    refine own_to (fun _ kont => XS.iconst X123.here hx rfl (hb hby at_71) kont) ?_
    show own_Ends _ _ _ _ (T123.setTop (mkF m 72 #[.val (.int z1), .val (.int z2), .val (.int 2), .val (.int 2), .val (.ref ra2), .val (.ref sp2), .unset, .unset, .unset] [(.int 0), (.ref b123), (.ref b123)]))
    refine own_to (fun _ kont => XS.iconst X123.here hx rfl (hb hby at_72) kont) ?_
    show own_Ends _ _ _ _ (T123.setTop (mkF m 73 #[.val (.int z1), .val (.int z2), .val (.int 2), .val (.int 2), .val (.ref ra2), .val (.ref sp2), .unset, .unset, .unset] [(.int 0), (.int 0), (.ref b123), (.ref b123)]))
    obtain ⟨cl124, Ar124, q124, S124, M124, H124, G124⟩ := Vn123
    have hin124 : ¬ ((0 : Int32) < 0 ∨ cl124.slots.size ≤ ((0 : Int32)).toNatClampNeg) := inb_of S124 ⟨by decide, by decide⟩
    obtain ⟨T124, h124, X124, e124, W124, st124⟩ := stZ X123 hx hZ e123 Ar124 (j := (0 : Int32)) hin124 (g := (mkF m 73 #[.val (.int z1), .val (.int z2), .val (.int (2 : Int32)), .val (.int (2 : Int32)), .val (.ref ra2), .val (.ref sp2), .unset, .unset, .unset] [(.int (0 : Int32)), (.int (0 : Int32)), (.ref b123), (.ref b123)])) rfl rfl (hb hby at_73)
    have Vs124 : Arv Z h124 b123 k123 .boolean (9 : Int32) [(.int (0 : Int32)), (.int (0 : Int32)), (.int (0 : Int32)), (.int (0 : Int32)), (.int (0 : Int32)), (.int (0 : Int32)), (.int (0 : Int32)), (.int (0 : Int32)), (.int (0 : Int32))] (.int (0 : Int32)) := Arv.set Ar124 q124 S124 M124 H124 G124 (fits_nar_bool _) W124 0 rfl (own_lt rfl)
    refine own_to st124 ?_
    have O124 := O123.wr W124 g_b123
    have N124 := Fr.snoc X124 N0 g_b123
    show own_Ends _ _ _ _ (T124.setTop (mkF m 74 #[.val (.int z1), .val (.int z2), .val (.int 2), .val (.int 2), .val (.ref ra2), .val (.ref sp2), .unset, .unset, .unset] [(.ref b123)]))
    refine own_to (fun _ kont => XS.dup X124.here hx rfl (hb hby at_74) rfl rfl kont) ?_
    show own_Ends _ _ _ _ (T124.setTop (mkF m 75 #[.val (.int z1), .val (.int z2), .val (.int 2), .val (.int 2), .val (.ref ra2), .val (.ref sp2), .unset, .unset, .unset] [(.ref b123), (.ref b123)]))
    refine own_to (fun _ kont => XS.iconst X124.here hx rfl (hb hby at_75) kont) ?_
    show own_Ends _ _ _ _ (T124.setTop (mkF m 76 #[.val (.int z1), .val (.int z2), .val (.int 2), .val (.int 2), .val (.ref ra2), .val (.ref sp2), .unset, .unset, .unset] [(.int 1), (.ref b123), (.ref b123)]))
    refine own_to (fun _ kont => XS.iconst X124.here hx rfl (hb hby at_76) kont) ?_
    show own_Ends _ _ _ _ (T124.setTop (mkF m 77 #[.val (.int z1), .val (.int z2), .val (.int 2), .val (.int 2), .val (.ref ra2), .val (.ref sp2), .unset, .unset, .unset] [(.int 1), (.int 1), (.ref b123), (.ref b123)]))
    obtain ⟨cl125, Ar125, q125, S125, M125, H125, G125⟩ := Vs124
    have hin125 : ¬ ((1 : Int32) < 0 ∨ cl125.slots.size ≤ ((1 : Int32)).toNatClampNeg) := inb_of S125 ⟨by decide, by decide⟩
    obtain ⟨T125, h125, X125, e125, W125, st125⟩ := stZ X124 hx hZ e124 Ar125 (j := (1 : Int32)) hin125 (g := (mkF m 77 #[.val (.int z1), .val (.int z2), .val (.int (2 : Int32)), .val (.int (2 : Int32)), .val (.ref ra2), .val (.ref sp2), .unset, .unset, .unset] [(.int (1 : Int32)), (.int (1 : Int32)), (.ref b123), (.ref b123)])) rfl rfl (hb hby at_77)
    have Vs125 : Arv Z h125 b123 k123 .boolean (9 : Int32) [(.int (0 : Int32)), (.int (1 : Int32)), (.int (0 : Int32)), (.int (0 : Int32)), (.int (0 : Int32)), (.int (0 : Int32)), (.int (0 : Int32)), (.int (0 : Int32)), (.int (0 : Int32))] (.int (0 : Int32)) := Arv.set Ar125 q125 S125 M125 H125 G125 (fits_nar_bool _) W125 1 rfl (own_lt rfl)
    refine own_to st125 ?_
    have O125 := O124.wr W125 g_b123
    have N125 := Fr.snoc X125 N124 g_b123
    show own_Ends _ _ _ _ (T125.setTop (mkF m 78 #[.val (.int z1), .val (.int z2), .val (.int 2), .val (.int 2), .val (.ref ra2), .val (.ref sp2), .unset, .unset, .unset] [(.ref b123)]))
    refine own_to (fun _ kont => XS.dup X125.here hx rfl (hb hby at_78) rfl rfl kont) ?_
    show own_Ends _ _ _ _ (T125.setTop (mkF m 79 #[.val (.int z1), .val (.int z2), .val (.int 2), .val (.int 2), .val (.ref ra2), .val (.ref sp2), .unset, .unset, .unset] [(.ref b123), (.ref b123)]))
    refine own_to (fun _ kont => XS.iconst X125.here hx rfl (hb hby at_79) kont) ?_
    show own_Ends _ _ _ _ (T125.setTop (mkF m 80 #[.val (.int z1), .val (.int z2), .val (.int 2), .val (.int 2), .val (.ref ra2), .val (.ref sp2), .unset, .unset, .unset] [(.int 2), (.ref b123), (.ref b123)]))
    refine own_to (fun _ kont => XS.iconst X125.here hx rfl (hb hby at_80) kont) ?_
    show own_Ends _ _ _ _ (T125.setTop (mkF m 81 #[.val (.int z1), .val (.int z2), .val (.int 2), .val (.int 2), .val (.ref ra2), .val (.ref sp2), .unset, .unset, .unset] [(.int 0), (.int 2), (.ref b123), (.ref b123)]))
    obtain ⟨cl126, Ar126, q126, S126, M126, H126, G126⟩ := Vs125
    have hin126 : ¬ ((2 : Int32) < 0 ∨ cl126.slots.size ≤ ((2 : Int32)).toNatClampNeg) := inb_of S126 ⟨by decide, by decide⟩
    obtain ⟨T126, h126, X126, e126, W126, st126⟩ := stZ X125 hx hZ e125 Ar126 (j := (2 : Int32)) hin126 (g := (mkF m 81 #[.val (.int z1), .val (.int z2), .val (.int (2 : Int32)), .val (.int (2 : Int32)), .val (.ref ra2), .val (.ref sp2), .unset, .unset, .unset] [(.int (0 : Int32)), (.int (2 : Int32)), (.ref b123), (.ref b123)])) rfl rfl (hb hby at_81)
    have Vs126 : Arv Z h126 b123 k123 .boolean (9 : Int32) [(.int (0 : Int32)), (.int (1 : Int32)), (.int (0 : Int32)), (.int (0 : Int32)), (.int (0 : Int32)), (.int (0 : Int32)), (.int (0 : Int32)), (.int (0 : Int32)), (.int (0 : Int32))] (.int (0 : Int32)) := Arv.set Ar126 q126 S126 M126 H126 G126 (fits_nar_bool _) W126 2 rfl (own_lt rfl)
    refine own_to st126 ?_
    have O126 := O125.wr W126 g_b123
    have N126 := Fr.snoc X126 N125 g_b123
    show own_Ends _ _ _ _ (T126.setTop (mkF m 82 #[.val (.int z1), .val (.int z2), .val (.int 2), .val (.int 2), .val (.ref ra2), .val (.ref sp2), .unset, .unset, .unset] [(.ref b123)]))
    refine own_to (fun _ kont => XS.dup X126.here hx rfl (hb hby at_82) rfl rfl kont) ?_
    show own_Ends _ _ _ _ (T126.setTop (mkF m 83 #[.val (.int z1), .val (.int z2), .val (.int 2), .val (.int 2), .val (.ref ra2), .val (.ref sp2), .unset, .unset, .unset] [(.ref b123), (.ref b123)]))
    refine own_to (fun _ kont => XS.iconst X126.here hx rfl (hb hby at_83) kont) ?_
    show own_Ends _ _ _ _ (T126.setTop (mkF m 84 #[.val (.int z1), .val (.int z2), .val (.int 2), .val (.int 2), .val (.ref ra2), .val (.ref sp2), .unset, .unset, .unset] [(.int 3), (.ref b123), (.ref b123)]))
    refine own_to (fun _ kont => XS.iconst X126.here hx rfl (hb hby at_84) kont) ?_
    show own_Ends _ _ _ _ (T126.setTop (mkF m 85 #[.val (.int z1), .val (.int z2), .val (.int 2), .val (.int 2), .val (.ref ra2), .val (.ref sp2), .unset, .unset, .unset] [(.int 1), (.int 3), (.ref b123), (.ref b123)]))
    obtain ⟨cl127, Ar127, q127, S127, M127, H127, G127⟩ := Vs126
    have hin127 : ¬ ((3 : Int32) < 0 ∨ cl127.slots.size ≤ ((3 : Int32)).toNatClampNeg) := inb_of S127 ⟨by decide, by decide⟩
    obtain ⟨T127, h127, X127, e127, W127, st127⟩ := stZ X126 hx hZ e126 Ar127 (j := (3 : Int32)) hin127 (g := (mkF m 85 #[.val (.int z1), .val (.int z2), .val (.int (2 : Int32)), .val (.int (2 : Int32)), .val (.ref ra2), .val (.ref sp2), .unset, .unset, .unset] [(.int (1 : Int32)), (.int (3 : Int32)), (.ref b123), (.ref b123)])) rfl rfl (hb hby at_85)
    have Vs127 : Arv Z h127 b123 k123 .boolean (9 : Int32) [(.int (0 : Int32)), (.int (1 : Int32)), (.int (0 : Int32)), (.int (1 : Int32)), (.int (0 : Int32)), (.int (0 : Int32)), (.int (0 : Int32)), (.int (0 : Int32)), (.int (0 : Int32))] (.int (0 : Int32)) := Arv.set Ar127 q127 S127 M127 H127 G127 (fits_nar_bool _) W127 3 rfl (own_lt rfl)
    refine own_to st127 ?_
    have O127 := O126.wr W127 g_b123
    have N127 := Fr.snoc X127 N126 g_b123
    show own_Ends _ _ _ _ (T127.setTop (mkF m 86 #[.val (.int z1), .val (.int z2), .val (.int 2), .val (.int 2), .val (.ref ra2), .val (.ref sp2), .unset, .unset, .unset] [(.ref b123)]))
    refine own_to (fun _ kont => XS.dup X127.here hx rfl (hb hby at_86) rfl rfl kont) ?_
    show own_Ends _ _ _ _ (T127.setTop (mkF m 87 #[.val (.int z1), .val (.int z2), .val (.int 2), .val (.int 2), .val (.ref ra2), .val (.ref sp2), .unset, .unset, .unset] [(.ref b123), (.ref b123)]))
    refine own_to (fun _ kont => XS.iconst X127.here hx rfl (hb hby at_87) kont) ?_
    show own_Ends _ _ _ _ (T127.setTop (mkF m 88 #[.val (.int z1), .val (.int z2), .val (.int 2), .val (.int 2), .val (.ref ra2), .val (.ref sp2), .unset, .unset, .unset] [(.int 4), (.ref b123), (.ref b123)]))
    refine own_to (fun _ kont => XS.iconst X127.here hx rfl (hb hby at_88) kont) ?_
    show own_Ends _ _ _ _ (T127.setTop (mkF m 89 #[.val (.int z1), .val (.int z2), .val (.int 2), .val (.int 2), .val (.ref ra2), .val (.ref sp2), .unset, .unset, .unset] [(.int 1), (.int 4), (.ref b123), (.ref b123)]))
    obtain ⟨cl128, Ar128, q128, S128, M128, H128, G128⟩ := Vs127
    have hin128 : ¬ ((4 : Int32) < 0 ∨ cl128.slots.size ≤ ((4 : Int32)).toNatClampNeg) := inb_of S128 ⟨by decide, by decide⟩
    obtain ⟨T128, h128, X128, e128, W128, st128⟩ := stZ X127 hx hZ e127 Ar128 (j := (4 : Int32)) hin128 (g := (mkF m 89 #[.val (.int z1), .val (.int z2), .val (.int (2 : Int32)), .val (.int (2 : Int32)), .val (.ref ra2), .val (.ref sp2), .unset, .unset, .unset] [(.int (1 : Int32)), (.int (4 : Int32)), (.ref b123), (.ref b123)])) rfl rfl (hb hby at_89)
    have Vs128 : Arv Z h128 b123 k123 .boolean (9 : Int32) [(.int (0 : Int32)), (.int (1 : Int32)), (.int (0 : Int32)), (.int (1 : Int32)), (.int (1 : Int32)), (.int (0 : Int32)), (.int (0 : Int32)), (.int (0 : Int32)), (.int (0 : Int32))] (.int (0 : Int32)) := Arv.set Ar128 q128 S128 M128 H128 G128 (fits_nar_bool _) W128 4 rfl (own_lt rfl)
    refine own_to st128 ?_
    have O128 := O127.wr W128 g_b123
    have N128 := Fr.snoc X128 N127 g_b123
    show own_Ends _ _ _ _ (T128.setTop (mkF m 90 #[.val (.int z1), .val (.int z2), .val (.int 2), .val (.int 2), .val (.ref ra2), .val (.ref sp2), .unset, .unset, .unset] [(.ref b123)]))
    refine own_to (fun _ kont => XS.dup X128.here hx rfl (hb hby at_90) rfl rfl kont) ?_
    show own_Ends _ _ _ _ (T128.setTop (mkF m 91 #[.val (.int z1), .val (.int z2), .val (.int 2), .val (.int 2), .val (.ref ra2), .val (.ref sp2), .unset, .unset, .unset] [(.ref b123), (.ref b123)]))
    refine own_to (fun _ kont => XS.iconst X128.here hx rfl (hb hby at_91) kont) ?_
    show own_Ends _ _ _ _ (T128.setTop (mkF m 92 #[.val (.int z1), .val (.int z2), .val (.int 2), .val (.int 2), .val (.ref ra2), .val (.ref sp2), .unset, .unset, .unset] [(.int 5), (.ref b123), (.ref b123)]))
    refine own_to (fun _ kont => XS.iconst X128.here hx rfl (hb hby at_92) kont) ?_
    show own_Ends _ _ _ _ (T128.setTop (mkF m 93 #[.val (.int z1), .val (.int z2), .val (.int 2), .val (.int 2), .val (.ref ra2), .val (.ref sp2), .unset, .unset, .unset] [(.int 1), (.int 5), (.ref b123), (.ref b123)]))
    obtain ⟨cl129, Ar129, q129, S129, M129, H129, G129⟩ := Vs128
    have hin129 : ¬ ((5 : Int32) < 0 ∨ cl129.slots.size ≤ ((5 : Int32)).toNatClampNeg) := inb_of S129 ⟨by decide, by decide⟩
    obtain ⟨T129, h129, X129, e129, W129, st129⟩ := stZ X128 hx hZ e128 Ar129 (j := (5 : Int32)) hin129 (g := (mkF m 93 #[.val (.int z1), .val (.int z2), .val (.int (2 : Int32)), .val (.int (2 : Int32)), .val (.ref ra2), .val (.ref sp2), .unset, .unset, .unset] [(.int (1 : Int32)), (.int (5 : Int32)), (.ref b123), (.ref b123)])) rfl rfl (hb hby at_93)
    have Vs129 : Arv Z h129 b123 k123 .boolean (9 : Int32) [(.int (0 : Int32)), (.int (1 : Int32)), (.int (0 : Int32)), (.int (1 : Int32)), (.int (1 : Int32)), (.int (1 : Int32)), (.int (0 : Int32)), (.int (0 : Int32)), (.int (0 : Int32))] (.int (0 : Int32)) := Arv.set Ar129 q129 S129 M129 H129 G129 (fits_nar_bool _) W129 5 rfl (own_lt rfl)
    refine own_to st129 ?_
    have O129 := O128.wr W129 g_b123
    have N129 := Fr.snoc X129 N128 g_b123
    show own_Ends _ _ _ _ (T129.setTop (mkF m 94 #[.val (.int z1), .val (.int z2), .val (.int 2), .val (.int 2), .val (.ref ra2), .val (.ref sp2), .unset, .unset, .unset] [(.ref b123)]))
    refine own_to (fun _ kont => XS.dup X129.here hx rfl (hb hby at_94) rfl rfl kont) ?_
    show own_Ends _ _ _ _ (T129.setTop (mkF m 95 #[.val (.int z1), .val (.int z2), .val (.int 2), .val (.int 2), .val (.ref ra2), .val (.ref sp2), .unset, .unset, .unset] [(.ref b123), (.ref b123)]))
    refine own_to (fun _ kont => XS.bipush X129.here hx rfl (hb hby at_95) kont) ?_
    show own_Ends _ _ _ _ (T129.setTop (mkF m 97 #[.val (.int z1), .val (.int z2), .val (.int 2), .val (.int 2), .val (.ref ra2), .val (.ref sp2), .unset, .unset, .unset] [(.int 6), (.ref b123), (.ref b123)]))
    refine own_to (fun _ kont => XS.iconst X129.here hx rfl (hb hby at_97) kont) ?_
    show own_Ends _ _ _ _ (T129.setTop (mkF m 98 #[.val (.int z1), .val (.int z2), .val (.int 2), .val (.int 2), .val (.ref ra2), .val (.ref sp2), .unset, .unset, .unset] [(.int 0), (.int 6), (.ref b123), (.ref b123)]))
    obtain ⟨cl130, Ar130, q130, S130, M130, H130, G130⟩ := Vs129
    have hin130 : ¬ ((6 : Int32) < 0 ∨ cl130.slots.size ≤ ((6 : Int32)).toNatClampNeg) := inb_of S130 ⟨by decide, by decide⟩
    obtain ⟨T130, h130, X130, e130, W130, st130⟩ := stZ X129 hx hZ e129 Ar130 (j := (6 : Int32)) hin130 (g := (mkF m 98 #[.val (.int z1), .val (.int z2), .val (.int (2 : Int32)), .val (.int (2 : Int32)), .val (.ref ra2), .val (.ref sp2), .unset, .unset, .unset] [(.int (0 : Int32)), (.int (6 : Int32)), (.ref b123), (.ref b123)])) rfl rfl (hb hby at_98)
    have Vs130 : Arv Z h130 b123 k123 .boolean (9 : Int32) [(.int (0 : Int32)), (.int (1 : Int32)), (.int (0 : Int32)), (.int (1 : Int32)), (.int (1 : Int32)), (.int (1 : Int32)), (.int (0 : Int32)), (.int (0 : Int32)), (.int (0 : Int32))] (.int (0 : Int32)) := Arv.set Ar130 q130 S130 M130 H130 G130 (fits_nar_bool _) W130 6 rfl (own_lt rfl)
    refine own_to st130 ?_
    have O130 := O129.wr W130 g_b123
    have N130 := Fr.snoc X130 N129 g_b123
    show own_Ends _ _ _ _ (T130.setTop (mkF m 99 #[.val (.int z1), .val (.int z2), .val (.int 2), .val (.int 2), .val (.ref ra2), .val (.ref sp2), .unset, .unset, .unset] [(.ref b123)]))
    refine own_to (fun _ kont => XS.dup X130.here hx rfl (hb hby at_99) rfl rfl kont) ?_
    show own_Ends _ _ _ _ (T130.setTop (mkF m 100 #[.val (.int z1), .val (.int z2), .val (.int 2), .val (.int 2), .val (.ref ra2), .val (.ref sp2), .unset, .unset, .unset] [(.ref b123), (.ref b123)]))
    refine own_to (fun _ kont => XS.bipush X130.here hx rfl (hb hby at_100) kont) ?_
    show own_Ends _ _ _ _ (T130.setTop (mkF m 102 #[.val (.int z1), .val (.int z2), .val (.int 2), .val (.int 2), .val (.ref ra2), .val (.ref sp2), .unset, .unset, .unset] [(.int 7), (.ref b123), (.ref b123)]))
    refine own_to (fun _ kont => XS.iconst X130.here hx rfl (hb hby at_102) kont) ?_
    show own_Ends _ _ _ _ (T130.setTop (mkF m 103 #[.val (.int z1), .val (.int z2), .val (.int 2), .val (.int 2), .val (.ref ra2), .val (.ref sp2), .unset, .unset, .unset] [(.int 1), (.int 7), (.ref b123), (.ref b123)]))
    obtain ⟨cl131, Ar131, q131, S131, M131, H131, G131⟩ := Vs130
    have hin131 : ¬ ((7 : Int32) < 0 ∨ cl131.slots.size ≤ ((7 : Int32)).toNatClampNeg) := inb_of S131 ⟨by decide, by decide⟩
    obtain ⟨T131, h131, X131, e131, W131, st131⟩ := stZ X130 hx hZ e130 Ar131 (j := (7 : Int32)) hin131 (g := (mkF m 103 #[.val (.int z1), .val (.int z2), .val (.int (2 : Int32)), .val (.int (2 : Int32)), .val (.ref ra2), .val (.ref sp2), .unset, .unset, .unset] [(.int (1 : Int32)), (.int (7 : Int32)), (.ref b123), (.ref b123)])) rfl rfl (hb hby at_103)
    have Vs131 : Arv Z h131 b123 k123 .boolean (9 : Int32) [(.int (0 : Int32)), (.int (1 : Int32)), (.int (0 : Int32)), (.int (1 : Int32)), (.int (1 : Int32)), (.int (1 : Int32)), (.int (0 : Int32)), (.int (1 : Int32)), (.int (0 : Int32))] (.int (0 : Int32)) := Arv.set Ar131 q131 S131 M131 H131 G131 (fits_nar_bool _) W131 7 rfl (own_lt rfl)
    refine own_to st131 ?_
    have O131 := O130.wr W131 g_b123
    have N131 := Fr.snoc X131 N130 g_b123
    show own_Ends _ _ _ _ (T131.setTop (mkF m 104 #[.val (.int z1), .val (.int z2), .val (.int 2), .val (.int 2), .val (.ref ra2), .val (.ref sp2), .unset, .unset, .unset] [(.ref b123)]))
    refine own_to (fun _ kont => XS.dup X131.here hx rfl (hb hby at_104) rfl rfl kont) ?_
    show own_Ends _ _ _ _ (T131.setTop (mkF m 105 #[.val (.int z1), .val (.int z2), .val (.int 2), .val (.int 2), .val (.ref ra2), .val (.ref sp2), .unset, .unset, .unset] [(.ref b123), (.ref b123)]))
    refine own_to (fun _ kont => XS.bipush X131.here hx rfl (hb hby at_105) kont) ?_
    show own_Ends _ _ _ _ (T131.setTop (mkF m 107 #[.val (.int z1), .val (.int z2), .val (.int 2), .val (.int 2), .val (.ref ra2), .val (.ref sp2), .unset, .unset, .unset] [(.int 8), (.ref b123), (.ref b123)]))
    refine own_to (fun _ kont => XS.iconst X131.here hx rfl (hb hby at_107) kont) ?_
    show own_Ends _ _ _ _ (T131.setTop (mkF m 108 #[.val (.int z1), .val (.int z2), .val (.int 2), .val (.int 2), .val (.ref ra2), .val (.ref sp2), .unset, .unset, .unset] [(.int 0), (.int 8), (.ref b123), (.ref b123)]))
    obtain ⟨cl132, Ar132, q132, S132, M132, H132, G132⟩ := Vs131
    have hin132 : ¬ ((8 : Int32) < 0 ∨ cl132.slots.size ≤ ((8 : Int32)).toNatClampNeg) := inb_of S132 ⟨by decide, by decide⟩
    obtain ⟨T132, h132, X132, e132, W132, st132⟩ := stZ X131 hx hZ e131 Ar132 (j := (8 : Int32)) hin132 (g := (mkF m 108 #[.val (.int z1), .val (.int z2), .val (.int (2 : Int32)), .val (.int (2 : Int32)), .val (.ref ra2), .val (.ref sp2), .unset, .unset, .unset] [(.int (0 : Int32)), (.int (8 : Int32)), (.ref b123), (.ref b123)])) rfl rfl (hb hby at_108)
    have Vs132 : Arv Z h132 b123 k123 .boolean (9 : Int32) [(.int (0 : Int32)), (.int (1 : Int32)), (.int (0 : Int32)), (.int (1 : Int32)), (.int (1 : Int32)), (.int (1 : Int32)), (.int (0 : Int32)), (.int (1 : Int32)), (.int (0 : Int32))] (.int (0 : Int32)) := Arv.set Ar132 q132 S132 M132 H132 G132 (fits_nar_bool _) W132 8 rfl (own_lt rfl)
    refine own_to st132 ?_
    have O132 := O131.wr W132 g_b123
    have N132 := Fr.snoc X132 N131 g_b123
    show own_Ends _ _ _ _ (T132.setTop (mkF m 109 #[.val (.int z1), .val (.int z2), .val (.int 2), .val (.int 2), .val (.ref ra2), .val (.ref sp2), .unset, .unset, .unset] [(.ref b123)]))
    refine own_to (fun _ kont => XS.astore X132.here hx rfl (hb hby at_109) rfl rfl (l' := #[.val (.int z1), .val (.int z2), .val (.int (2 : Int32)), .val (.int (2 : Int32)), .val (.ref ra2), .val (.ref sp2), .val (.ref b123), .unset, .unset]) rfl kont) ?_
    show own_Ends _ _ _ _ (T132.setTop (mkF m 111 #[.val (.int z1), .val (.int z2), .val (.int 2), .val (.int 2), .val (.ref ra2), .val (.ref sp2), .val (.ref b123), .unset, .unset] []))
    refine own_to (fun _ kont => XS.aload X132.here hx rfl (hb hby at_111) rfl rfl kont) ?_
    show own_Ends _ _ _ _ (T132.setTop (mkF m 113 #[.val (.int z1), .val (.int z2), .val (.int 2), .val (.int 2), .val (.ref ra2), .val (.ref sp2), .val (.ref b123), .unset, .unset] [(.ref b123)]))
    refine own_to (fun _ kont => XS.iloadN X132.here hx rfl (hb hby at_113) rfl kont) ?_
    show own_Ends _ _ _ _ (T132.setTop (mkF m 114 #[.val (.int z1), .val (.int z2), .val (.int 2), .val (.int 2), .val (.ref ra2), .val (.ref sp2), .val (.ref b123), .unset, .unset] [(.int 2), (.ref b123)]))
    refine own_to (fun _ kont => XS.iconst X132.here hx rfl (hb hby at_114) kont) ?_
    show own_Ends _ _ _ _ (T132.setTop (mkF m 115 #[.val (.int z1), .val (.int z2), .val (.int 2), .val (.int 2), .val (.ref ra2), .val (.ref sp2), .val (.ref b123), .unset, .unset] [(.int 3), (.int 2), (.ref b123)]))
    refine own_to (fun _ kont => XS.imul X132.here hx rfl (hb hby at_115) rfl kont) ?_
    show own_Ends _ _ _ _ (T132.setTop (mkF m 116 #[.val (.int z1), .val (.int z2), .val (.int 2), .val (.int 2), .val (.ref ra2), .val (.ref sp2), .val (.ref b123), .unset, .unset] [(.int 6), (.ref b123)]))
    refine own_to (fun _ kont => XS.iloadN X132.here hx rfl (hb hby at_116) rfl kont) ?_
    show own_Ends _ _ _ _ (T132.setTop (mkF m 117 #[.val (.int z1), .val (.int z2), .val (.int 2), .val (.int 2), .val (.ref ra2), .val (.ref sp2), .val (.ref b123), .unset, .unset] [(.int 2), (.int 6), (.ref b123)]))
    refine own_to (fun _ kont => XS.iadd X132.here hx rfl (hb hby at_117) rfl kont) ?_
    show own_Ends _ _ _ _ (T132.setTop (mkF m 118 #[.val (.int z1), .val (.int z2), .val (.int 2), .val (.int 2), .val (.ref ra2), .val (.ref sp2), .val (.ref b123), .unset, .unset] [(.int 8), (.ref b123)]))
    obtain ⟨cl133, Ar133, q133, S133, M133, H133, G133⟩ := Vs132
    have hin133 : ¬ ((8 : Int32) < 0 ∨ cl133.slots.size ≤ ((8 : Int32)).toNatClampNeg) := inb_of S133 ⟨by decide, by decide⟩
    have hat133 : cl133.slots[((8 : Int32)).toNatClampNeg]? = some (.int (0 : Int32)) := Has.at H133 hin133 rfl
    refine own_to (fun _ kont => X132.baloadBooleans hx (j := (8 : Int32)) (v := (.int (0 : Int32))) (by rw [e132]; exact Ar133.1) (State.isArrayOf_alike hZ.alike Ar133.2.1) Ar133.2.2 hin133 hat133 (g := (mkF m 118 #[.val (.int z1), .val (.int z2), .val (.int (2 : Int32)), .val (.int (2 : Int32)), .val (.ref ra2), .val (.ref sp2), .val (.ref b123), .unset, .unset] [(.int (8 : Int32)), (.ref b123)])) rfl rfl (hb hby at_118) _ kont) ?_
    show own_Ends _ _ _ _ (T132.setTop (mkF m 119 #[.val (.int z1), .val (.int z2), .val (.int 2), .val (.int 2), .val (.ref ra2), .val (.ref sp2), .val (.ref b123), .unset, .unset] [(.int 0)]))
    refine own_to (fun _ kont => XS.ifYes X132.here hx rfl (pc0 := 119) (pc' := 128) rfl (hb hby at_119) rfl ((if0 _ _).trans (teq (by decide)).1) (by decide) (by decide) kont) ?_
    show own_Ends _ _ _ _ (T132.setTop (mkF m 128 #[.val (.int z1), .val (.int z2), .val (.int 2), .val (.int 2), .val (.ref ra2), .val (.ref sp2), .val (.ref b123), .unset, .unset] []))
    obtain ⟨T134, X134, e134, st134⟩ := getS2 X132 hx hZ hown (host := "") (Or.inl (ow8 hw)) Via.refl e132 (S_el0.ext O132.2) (g := (mkF m 128 #[.val (.int z1), .val (.int z2), .val (.int (2 : Int32)), .val (.int (2 : Int32)), .val (.ref ra2), .val (.ref sp2), .val (.ref b123), .unset, .unset] [])) rfl (hb hby at_128)
    refine own_to st134 ?_
    show own_Ends _ _ _ _ (T134.setTop (mkF m 131 #[.val (.int z1), .val (.int z2), .val (.int 2), .val (.int 2), .val (.ref ra2), .val (.ref sp2), .val (.ref b123), .unset, .unset] [(.ref el0)]))
    refine own_to (fun _ kont => XS.astore X134.here hx rfl (hb hby at_131) rfl rfl (l' := #[.val (.int z1), .val (.int z2), .val (.int (2 : Int32)), .val (.int (2 : Int32)), .val (.ref ra2), .val (.ref sp2), .val (.ref b123), .val (.ref el0), .unset]) rfl kont) ?_
    show own_Ends _ _ _ _ (T134.setTop (mkF m 133 #[.val (.int z1), .val (.int z2), .val (.int 2), .val (.int 2), .val (.ref ra2), .val (.ref sp2), .val (.ref b123), .val (.ref el0), .unset] []))
    refine own_to (fun _ kont => XS.aload X134.here hx rfl (hb hby at_133) rfl rfl kont) ?_
    show own_Ends _ _ _ _ (T134.setTop (mkF m 135 #[.val (.int z1), .val (.int z2), .val (.int 2), .val (.int 2), .val (.ref ra2), .val (.ref sp2), .val (.ref b123), .val (.ref el0), .unset] [(.ref ra2)]))
    refine own_to (fun _ kont => XS.aload X134.here hx rfl (hb hby at_135) rfl rfl kont) ?_
    show own_Ends _ _ _ _ (T134.setTop (mkF m 137 #[.val (.int z1), .val (.int z2), .val (.int 2), .val (.int 2), .val (.ref ra2), .val (.ref sp2), .val (.ref b123), .val (.ref el0), .unset] [(.ref sp2), (.ref ra2)]))
    obtain ⟨_, _, ⟨T135, L135, k135, n135⟩, -, X135, ⟨Lc135, hQ135, l135, y135, z135⟩, st135⟩ := Jvm.LawKit.callS X134 hx (y := oM0) hown (mvT hZ (ow11 hw)) (mvT hZ (ow12 hw)) (mvT hZ (ow9 hw)) (mvT hZ (ow13 hw)) (by decide) (backOf (W := 0) (rm1 l Z a0 hw [] ra2 sp2 ra1 sp1 el1 el0 h132 n0 O132 S_ra1 S_sp1 S_el1 S_el0) hZ (ow13 hw) (ow9 hw) (by decide) (by decide)) (g := (mkF m 137 #[.val (.int z1), .val (.int z2), .val (.int (2 : Int32)), .val (.int (2 : Int32)), .val (.ref ra2), .val (.ref sp2), .val (.ref b123), .val (.ref el0), .unset] [(.ref sp2), (.ref ra2)])) rfl (by rw [hml]; rfl) (argsL := [(.ref ra2), (.ref sp2)]) (rest := []) (lenOf pd_0 rfl) rfl (by show 2 * 0 + _ ≤ _; exact Nat.le_of_eq rfl) (hb hby at_137) (fun _ _ => ⟨rfl, e134, (own_le rfl), (own_le rfl)⟩)
    dsimp only [Pt.U, Pt.locs, Pt.cells, Pt.slots] at X135 l135 y135 z135 st135 hQ135
    subst l135 y135 z135
    obtain ⟨hv135, N135q, E135⟩ := hQ135
    rw [own_of3 (Fld.ne F_ra2 F_ra1 (own_intne (by decide))) (Fld.ne F_sp2 F_sp1 (own_intne (by decide)))] at hv135
    subst hv135
    have N135 := Fr.app N132 N135q
    refine own_to st135 ?_
    show own_Ends _ _ _ _ (T135.setTop (mkF m 140 #[.val (.int z1), .val (.int z2), .val (.int 2), .val (.int 2), .val (.ref ra2), .val (.ref sp2), .val (.ref b123), .val (.ref el0), .unset] [(.ref el0)]))
    refine own_to (fun _ kont => XS.astore X135.here hx rfl (hb hby at_140) rfl rfl (l' := #[.val (.int z1), .val (.int z2), .val (.int (2 : Int32)), .val (.int (2 : Int32)), .val (.ref ra2), .val (.ref sp2), .val (.ref b123), .val (.ref el0), .val (.ref el0)]) rfl kont) ?_
    show own_Ends _ _ _ _ (T135.setTop (mkF m 142 #[.val (.int z1), .val (.int z2), .val (.int 2), .val (.int 2), .val (.ref ra2), .val (.ref sp2), .val (.ref b123), .val (.ref el0), .val (.ref el0)] []))
    refine own_to (fun _ kont => XS.aload X135.here hx rfl (hb hby at_142) rfl rfl kont) ?_
    show own_Ends _ _ _ _ (T135.setTop (mkF m 144 #[.val (.int z1), .val (.int z2), .val (.int 2), .val (.int 2), .val (.ref ra2), .val (.ref sp2), .val (.ref b123), .val (.ref el0), .val (.ref el0)] [(.ref el0)]))
    refine own_to (fun _ kont => XS.ifnullNo X135.here hx rfl (hb hby at_144) rfl kont) ?_
    show own_Ends _ _ _ _ (T135.setTop (mkF m 147 #[.val (.int z1), .val (.int z2), .val (.int 2), .val (.int 2), .val (.ref ra2), .val (.ref sp2), .val (.ref b123), .val (.ref el0), .val (.ref el0)] []))
    refine own_to (fun _ kont => XS.aload X135.here hx rfl (hb hby at_147) rfl rfl kont) ?_
    show own_Ends _ _ _ _ (T135.setTop (mkF m 149 #[.val (.int z1), .val (.int z2), .val (.int 2), .val (.int 2), .val (.ref ra2), .val (.ref sp2), .val (.ref b123), .val (.ref el0), .val (.ref el0)] [(.ref el0)]))
    refine own_to (fun _ kont => XS.aload X135.here hx rfl (hb hby at_149) rfl rfl kont) ?_
    show own_Ends _ _ _ _ (T135.setTop (mkF m 151 #[.val (.int z1), .val (.int z2), .val (.int 2), .val (.int 2), .val (.ref ra2), .val (.ref sp2), .val (.ref b123), .val (.ref el0), .val (.ref el0)] [(.ref el0), (.ref el0)]))
    refine own_to (fun _ kont => Jvm.RoadKit.acmp (g := (mkF m 151 #[.val (.int z1), .val (.int z2), .val (.int (2 : Int32)), .val (.int (2 : Int32)), .val (.ref ra2), .val (.ref sp2), .val (.ref b123), .val (.ref el0), .val (.ref el0)] [(.ref el0), (.ref el0)])) X135 hx rfl rfl rfl (pc0 := 151) (pc' := 154) (same := true) rfl (hb hby at_151) rfl (decide_eq_true rfl) (by decide) (by decide) kont) ?_
    show own_Ends _ _ _ _ (T135.setTop (mkF m 154 #[.val (.int z1), .val (.int z2), .val (.int 2), .val (.int 2), .val (.ref ra2), .val (.ref sp2), .val (.ref b123), .val (.ref el0), .val (.ref el0)] []))
    refine own_to (fun _ kont => XS.iconst X135.here hx rfl (hb hby at_154) kont) ?_
    show own_Ends _ _ _ _ (T135.setTop (mkF m 155 #[.val (.int z1), .val (.int z2), .val (.int 2), .val (.int 2), .val (.ref ra2), .val (.ref sp2), .val (.ref b123), .val (.ref el0), .val (.ref el0)] [(.int 1)]))
    refine own_to (fun _ kont => XS.goto X135.here hx rfl (pc0 := 155) (pc' := 159) rfl (hb hby at_155) (by decide) (by decide) kont) ?_
    show own_Ends _ _ _ _ (T135.setTop (mkF m 159 #[.val (.int z1), .val (.int z2), .val (.int 2), .val (.int 2), .val (.ref ra2), .val (.ref sp2), .val (.ref b123), .val (.ref el0), .val (.ref el0)] [(.int 1)]))
    refine own_leave X135 (v := some (.int (1 : Int32))) (fun h => by rw [Bd.returns] at h; cases h) ?_ (by decide) (by decide) (fun fs hr => retN X135 hx (t := .boolean) Bd.returns (by simp) (hb hby at_159) hr)
    show Q_rm0 Z z1 z2 ra0 sp0 ra1 sp1 ra2 sp2 el0 el1 h0 n0 _ T135.heap _
    rw [E135]
    exact ⟨rfl, N135⟩
set_option maxRecDepth 65536 in
set_option maxHeartbeats 40000000 in
theorem comes_1 {Post : Tables → Env → Array Value → State → Outcome → State → Prop} (hpost : ∀ tb e args s v u, (limb_1_1.after args s (.returned v) u = true ∧ limb_1_2.after args s (.returned v) u = true ∧ True) → FrameEnd s (.returned v) u (Jvm.fieldLocs frame_1_writes args s ++ Jvm.arrayLocs frame_1_arrays args s ++ Jvm.staticLocs frame_1_statics s) 16 128 → Post tb e args s (.returned v) u) :
    ArmFor flags0 classFile x code maxLocals ret World_1 tables_1 room_1 Calls_1 rest_1 Pre_1 Post := by
  intro l hfl _ _ p e ha hc hk s m args below hf hA hF happ hP
  obtain ⟨hcalls, hrest, hpre⟩ := hP
  obtain ⟨-, -, -, hnamed, -, -, -, hat⟩ := (Spec.applies_iff hf).mp happ
  obtain ⟨hg, hn⟩ := and_e (Cond.before_iff.mp (show (Jvm.Cond.and given_1 narrow_1).before args s = true from hpre))
  obtain ⟨gc0, hg0⟩ := and_e hg
  obtain ⟨gc1, hg1⟩ := and_e hg0
  have gc2 := hg1
  obtain ⟨nc0, hn0⟩ := and_e hn
  obtain ⟨nc1, hn1⟩ := and_e hn0
  obtain ⟨nc2, hn2⟩ := and_e hn1
  obtain ⟨nc3, hn3⟩ := and_e hn2
  obtain ⟨nc4, hn4⟩ := and_e hn3
  obtain ⟨nc5, hn5⟩ := and_e hn4
  obtain ⟨nc6, hn6⟩ := and_e hn5
  obtain ⟨nc7, hn7⟩ := and_e hn6
  obtain ⟨nc8, hn8⟩ := and_e hn7
  obtain ⟨nc9, hn9⟩ := and_e hn8
  obtain ⟨nc10, hn10⟩ := and_e hn9
  obtain ⟨nc11, hn11⟩ := and_e hn10
  obtain ⟨nc12, hn12⟩ := and_e hn11
  have nc13 := hn12
  obtain ⟨w0, w1, rfl⟩ : ∃ w0 w1 : Value, args = #[w0, w1] := by
    have hs : args.size = 2 := by simpa [Cond.value, given_1] using gc0
    obtain ⟨L⟩ := args
    match L, hs with
    | [w0, w1], _ => exact ⟨w0, w1, rfl⟩
  have hw := fun d (hd : d ∈ tables_1) => atoms_spec (ws := Jvm.Cond.code x code maxLocals ret :: tables_1) hat d (List.mem_cons_of_mem _ hd)
  have hfit : Fit s := fun {y c} hc i hi => by
    obtain ⟨ha, rfl⟩ := Array.getElem?_eq_some_iff.mp hc
    have q := List.all_eq_true.mp ((Array.all_eq_true_iff_forall_mem.mp hF) _ (Array.getElem_mem ha)) i (List.mem_range.mpr hi)
    simpa [Array.getElem?_eq_getElem hi] using q
  obtain ⟨i0, ei0⟩ := is_v gc1
  obtain rfl : w0 = (.int i0) := Option.some.inj ei0
  obtain ⟨i1, ei1⟩ := is_v gc2
  obtain rfl : w1 = (.int i1) := Option.some.inj ei1
  obtain ⟨ra0, ev_ra0⟩ := exa_v nc0
  have E_ra0 : Exa s s.heap ra0 "com/example/routeward/routeward/rov/RoaState" := Exa.start ev_ra0 nc0
  have S_ra0 : Sta s s.heap "com/example/routeward/routeward/rov/RoaState" "VALID" "Lcom/example/routeward/routeward/rov/RoaState;" (.ref ra0) := Sta.start ev_ra0 (Or.inr ⟨(ow2 hw), (ow3 hw)⟩)
  obtain ⟨sp0, ev_sp0⟩ := exa_v nc1
  have E_sp0 : Exa s s.heap sp0 "com/example/routeward/routeward/spl/SplState" := Exa.start ev_sp0 nc1
  have S_sp0 : Sta s s.heap "com/example/routeward/routeward/spl/SplState" "VALID" "Lcom/example/routeward/routeward/spl/SplState;" (.ref sp0) := Sta.start ev_sp0 (Or.inr ⟨(ow5 hw), (ow6 hw)⟩)
  obtain ⟨el0, ev_el0⟩ := exa_v nc2
  have E_el0 : Exa s s.heap el0 "com/example/routeward/routeward/spl/Eligibility" := Exa.start ev_el0 nc2
  have S_el0 : Sta s s.heap "com/example/routeward/routeward/spl/Eligibility" "ELIGIBLE" "Lcom/example/routeward/routeward/spl/Eligibility;" (.ref el0) := Sta.start ev_el0 (Or.inr ⟨(ow9 hw), (ow10 hw)⟩)
  obtain ⟨ra1, ev_ra1⟩ := exa_v nc3
  have E_ra1 : Exa s s.heap ra1 "com/example/routeward/routeward/rov/RoaState" := Exa.start ev_ra1 nc3
  have S_ra1 : Sta s s.heap "com/example/routeward/routeward/rov/RoaState" "INVALID" "Lcom/example/routeward/routeward/rov/RoaState;" (.ref ra1) := Sta.start ev_ra1 (Or.inr ⟨(ow2 hw), (ow15 hw)⟩)
  obtain ⟨sp1, ev_sp1⟩ := exa_v nc6
  have E_sp1 : Exa s s.heap sp1 "com/example/routeward/routeward/spl/SplState" := Exa.start ev_sp1 nc6
  have S_sp1 : Sta s s.heap "com/example/routeward/routeward/spl/SplState" "INVALID" "Lcom/example/routeward/routeward/spl/SplState;" (.ref sp1) := Sta.start ev_sp1 (Or.inr ⟨(ow5 hw), (ow17 hw)⟩)
  obtain ⟨ra2, ev_ra2⟩ := exa_v nc9
  have E_ra2 : Exa s s.heap ra2 "com/example/routeward/routeward/rov/RoaState" := Exa.start ev_ra2 nc9
  have S_ra2 : Sta s s.heap "com/example/routeward/routeward/rov/RoaState" "NOT_FOUND" "Lcom/example/routeward/routeward/rov/RoaState;" (.ref ra2) := Sta.start ev_ra2 (Or.inr ⟨(ow2 hw), (ow20 hw)⟩)
  obtain ⟨el1, ev_el1⟩ := exa_v nc10
  have E_el1 : Exa s s.heap el1 "com/example/routeward/routeward/spl/Eligibility" := Exa.start ev_el1 nc10
  have S_el1 : Sta s s.heap "com/example/routeward/routeward/spl/Eligibility" "INELIGIBLE" "Lcom/example/routeward/routeward/spl/Eligibility;" (.ref el1) := Sta.start ev_el1 (Or.inr ⟨(ow9 hw), (ow23 hw)⟩)
  obtain ⟨sp2, ev_sp2⟩ := exa_v nc12
  have E_sp2 : Exa s s.heap sp2 "com/example/routeward/routeward/spl/SplState" := Exa.start ev_sp2 nc12
  have S_sp2 : Sta s s.heap "com/example/routeward/routeward/spl/SplState" "NOT_FOUND" "Lcom/example/routeward/routeward/spl/SplState;" (.ref sp2) := Sta.start ev_sp2 (Or.inr ⟨(ow5 hw), (ow26 hw)⟩)
  have F_ra0_ordinal : Fld s s.heap ra0 "java/lang/Enum" "ordinal" "I" (.int (0 : Int32)) := Fld.start ((fld_at ev_ra0).symm.trans (own_eqI nc4))
  have F_ra1_ordinal : Fld s s.heap ra1 "java/lang/Enum" "ordinal" "I" (.int (1 : Int32)) := Fld.start ((fld_at ev_ra1).symm.trans (own_eqI nc5))
  have F_sp0_ordinal : Fld s s.heap sp0 "java/lang/Enum" "ordinal" "I" (.int (0 : Int32)) := Fld.start ((fld_at ev_sp0).symm.trans (own_eqI nc7))
  have F_sp1_ordinal : Fld s s.heap sp1 "java/lang/Enum" "ordinal" "I" (.int (1 : Int32)) := Fld.start ((fld_at ev_sp1).symm.trans (own_eqI nc8))
  have F_ra2_ordinal : Fld s s.heap ra2 "java/lang/Enum" "ordinal" "I" (.int (2 : Int32)) := Fld.start ((fld_at ev_ra2).symm.trans (own_eqI nc11))
  have F_sp2_ordinal : Fld s s.heap sp2 "java/lang/Enum" "ordinal" "I" (.int (2 : Int32)) := Fld.start ((fld_at ev_sp2).symm.trans (own_eqI nc13))
  obtain ⟨n, o, h1, h2, h3, _, L, rfl, ⟨rfl, N⟩, hq⟩ := rm0 l s _ hw tables_1 i0 i1 ra0 sp0 ra1 sp1 ra2 sp2 el0 el1 s.heap s.heap.size (Old.start s) S_ra0 S_sp0 S_ra1 S_sp1 S_ra2 S_sp2 S_el0 S_el1 E_ra0 E_sp0 E_ra1 E_sp1 E_ra2 E_sp2 E_el0 E_el1 F_ra0_ordinal F_ra1_ordinal F_ra2_ordinal F_sp0_ordinal F_sp1_ordinal F_sp2_ordinal p e ha hc hk s m _ below hf ((Spec.applies_iff_loose hf).mp happ).1 ⟨rfl, State.Warmed39.refl s, rfl⟩ trivial
  refine ⟨n, _, h1, h2, h3, hpost _ _ _ _ _ _ ⟨Cond.after_iff.mpr rfl, Cond.after_iff.mpr (eq_i res_at (Term.int_eval (1)) rfl), trivial⟩ ⟨hq.1, hq.2.1, (hq.2.2.sift fun y hy => Or.inr (N y hy)).mono (by decide) (by decide)⟩⟩
theorem main_1_1 : Claimed_1_1 := comes_1 fun _ _ _ _ _ _ h hF => ⟨h.1, hF⟩
theorem main_1_2 : Claimed_1_2 := comes_1 fun _ _ _ _ _ _ h hF => ⟨h.2.1, hF⟩
end Jvm.Pilot.@@N@@
namespace Jvm.Pilot.@@N@@
open Jvm Jvm.ClassFile Sem Op Lib Jvm.Free Jvm.Stand Jvm.Pilot.@@N@@.Jvm.D
/-! MADE BY PROGRAM (witnessworld.py) out of the Statement's table words and the real class files: 16 classes; the members and pool entries that the words name. The judged class is class 1, her method 1. -/
namespace start1
open Jvm.ClassFile
def u (s : String) : CpInfo := .utf8 (stringToUtf16 s)
/-- a pool by its gaps: so many unusable entries, then the entry; so many at the end -/
def gap : Nat → List CpInfo → List CpInfo
  | 0, r => r
  | n + 1, r => .unusable :: gap n r
def poolList (es : List (Nat × CpInfo)) (last : Nat) : List CpInfo := es.foldr (fun e r => gap e.1 (e.2 :: r)) (gap last [])
def pool (es : List (Nat × CpInfo)) (last : Nat) : Array CpInfo := ⟨poolList es last⟩
def fileOf (pool : Array CpInfo) (this : Nat) (attrs : Array Attribute := #[]) (ms : Array MethodInfo := #[]) (fl : Nat := 33) (sup : Nat := 0) (ifs : Array Nat := #[]) (fds : Array FieldInfo := #[]) : ClassFile where
  minorVersion := 0
  majorVersion := 65
  constantPool := pool
  accessFlags := fl
  thisClass := this
  superClass := sup
  interfaces := ifs
  fields := fds
  methods := ms
  attributes := attrs
def plain (name : String) (sup : Option ClassId) : Class where
  name := name
  kind := .ordinary
  loader := none
  accessFlags := 33
  super := sup
  interfaces := #[]
  cf := none
  fields := #[]
  methods := #[]
  instanceTypes := #[]
  staticTypes := #[]
  resolved := #[]
  callSites := []
  init := .initialized
  statics := none
  mirror := none

def pool0 : Array CpInfo := pool [(5, u "<init>"), (0, u "()V"), (1, .class_ 10), (1, u "java/lang/Object")] 113

def k0m0 : Method := { name := "<init>", desc := "()V", sig := { parameters := [], returnType := none }, accessFlags := 1, code := none }
/-- java/lang/Object -/
def k0 : Class := { plain "java/lang/Object" none with
  accessFlags := 33
  interfaces := #[]
  cf := some (fileOf pool0 8 #[] #[{ accessFlags := 1, nameIndex := 5, descriptorIndex := 6, attributes := #[] }] 33 0 #[] #[])
  fields := #[]
  methods := #[k0m0]
  instanceTypes := #[]
  staticTypes := #[]
  resolved := Array.replicate 124 none
  statics := none }

def pool1 : Array CpInfo := pool [(2, .class_ 4), (1, u "java/lang/Object"), (0, u "<init>"), (0, u "()V"), (0, .integer 2147483647), (0, .fieldref 9 10), (0, .class_ 11), (0, .nameAndType 12 13), (0, u "com/example/routeward/routeward/rov/RoaState"), (0, u "VALID"), (0, u "Lcom/example/routeward/routeward/rov/RoaState;"), (0, .fieldref 9 15), (0, .nameAndType 16 13), (0, u "INVALID"), (0, .fieldref 9 18), (0, .nameAndType 19 13), (0, u "NOT_FOUND"), (0, .fieldref 21 22), (0, .class_ 23), (0, .nameAndType 12 24), (0, u "com/example/routeward/routeward/spl/SplState"), (0, u "Lcom/example/routeward/routeward/spl/SplState;"), (0, .fieldref 21 26), (0, .nameAndType 16 24), (0, .fieldref 21 28), (0, .nameAndType 19 24), (0, .fieldref 30 31), (0, .class_ 32), (0, .nameAndType 33 34), (0, u "com/example/routeward/routeward/spl/Eligibility"), (0, u "INELIGIBLE"), (0, u "Lcom/example/routeward/routeward/spl/Eligibility;"), (0, .fieldref 30 36), (0, .nameAndType 37 34), (0, u "ELIGIBLE"), (0, .methodref 30 39), (0, .nameAndType 40 41), (0, u "of"), (0, u "(Lcom/example/routeward/routeward/rov/RoaState;Lcom/example/routeward/routeward/spl/SplState;)Lcom/example/routeward/routeward/spl/Eligibility;"), (0, .class_ 43), (0, u "com/example/routeward/routeward/spl/EligibilityOfPinLaw"), (2, u "law"), (0, u "(II)Z")] 5

def k1m0 : Method := { name := "<init>", desc := "()V", sig := { parameters := [], returnType := none }, accessFlags := 1, code := none }
def k1c1 : Code := { maxStack := 4, maxLocals := 9, code := code, exceptionTable := #[], attributes := #[] }
def k1m1 : Method := { name := "law", desc := "(II)Z", sig := { parameters := [.int, .int], returnType := some .boolean }, accessFlags := 9, code := some k1c1 }
/-- com/example/routeward/routeward/spl/EligibilityOfPinLaw -/
def k1 : Class := { plain "com/example/routeward/routeward/spl/EligibilityOfPinLaw" (some 0) with
  accessFlags := 49
  interfaces := #[]
  cf := some (fileOf pool1 42 #[] #[{ accessFlags := 1, nameIndex := 5, descriptorIndex := 6, attributes := #[] }, { accessFlags := 9, nameIndex := 46, descriptorIndex := 47, attributes := #[] }] 49 2 #[] #[])
  fields := #[]
  methods := #[k1m0, k1m1]
  instanceTypes := #[]
  staticTypes := #[]
  resolved := Array.replicate 53 none
  statics := none }

def pool2 : Array CpInfo := pool [(1, .class_ 2), (0, u "java/lang/constant/Constable"), (0, .class_ 4), (0, u "java/lang/Object")] 6

/-- java/lang/constant/Constable -/
def k2 : Class := { plain "java/lang/constant/Constable" (some 0) with
  accessFlags := 1537
  interfaces := #[]
  cf := some (fileOf pool2 1 #[] #[] 1537 3 #[] #[])
  fields := #[]
  methods := #[]
  instanceTypes := #[]
  staticTypes := #[]
  resolved := Array.replicate 11 none
  statics := none }

def pool3 : Array CpInfo := pool [(1, .class_ 2), (0, u "java/lang/Comparable"), (0, .class_ 4), (0, u "java/lang/Object")] 7

/-- java/lang/Comparable -/
def k3 : Class := { plain "java/lang/Comparable" (some 0) with
  accessFlags := 1537
  interfaces := #[]
  cf := some (fileOf pool3 1 #[] #[] 1537 3 #[] #[])
  fields := #[]
  methods := #[]
  instanceTypes := #[]
  staticTypes := #[]
  resolved := Array.replicate 12 none
  statics := none }

def pool4 : Array CpInfo := pool [(1, .class_ 2), (0, u "java/io/Serializable"), (0, .class_ 4), (0, u "java/lang/Object")] 2

/-- java/io/Serializable -/
def k4 : Class := { plain "java/io/Serializable" (some 0) with
  accessFlags := 1537
  interfaces := #[]
  cf := some (fileOf pool4 1 #[] #[] 1537 3 #[] #[])
  fields := #[]
  methods := #[]
  instanceTypes := #[]
  staticTypes := #[]
  resolved := Array.replicate 7 none
  statics := none }

def pool5 : Array CpInfo := pool [(2, .class_ 4), (1, u "java/lang/Enum"), (0, u "name"), (0, u "Ljava/lang/String;"), (2, u "ordinal"), (0, u "I"), (1, .class_ 14), (1, u "java/lang/Object"), (4, u "hash"), (86, .class_ 108), (1, u "java/lang/Enum$EnumDesc"), (2, .class_ 112), (0, u "java/lang/constant/Constable"), (0, .class_ 114), (0, u "java/lang/Comparable"), (0, .class_ 116), (0, u "java/io/Serializable")] 87

/-- java/lang/Enum -/
def k5 : Class := { plain "java/lang/Enum" (some 0) with
  accessFlags := 1057
  interfaces := #[2, 3, 4]
  cf := some (fileOf pool5 2 #[.nestMembers #[106]] #[] 1057 12 #[111, 113, 115] #[{ accessFlags := 18, nameIndex := 5, descriptorIndex := 6, attributes := #[] }, { accessFlags := 18, nameIndex := 9, descriptorIndex := 10, attributes := #[] }, { accessFlags := 2, nameIndex := 19, descriptorIndex := 10, attributes := #[] }])
  fields := #[{ name := "name", type := (.object "java/lang/String"), accessFlags := 18, slot := 0, constantValue := 0 }, { name := "ordinal", type := .int, accessFlags := 18, slot := 1, constantValue := 0 }, { name := "hash", type := .int, accessFlags := 2, slot := 2, constantValue := 0 }]
  methods := #[]
  instanceTypes := #[(.object "java/lang/String"), .int, .int]
  staticTypes := #[]
  resolved := Array.replicate 204 none
  statics := none }

def pool6 : Array CpInfo := pool [(1, .class_ 2), (0, u "com/example/routeward/routeward/rov/RoaState"), (2, u "VALID"), (0, u "Lcom/example/routeward/routeward/rov/RoaState;"), (2, u "INVALID"), (2, u "NOT_FOUND"), (2, u "$VALUES"), (0, u "[Lcom/example/routeward/routeward/rov/RoaState;"), (6, .class_ 25), (1, u "java/lang/Enum"), (8, u "text"), (0, u "Ljava/lang/String;")] 30

/-- com/example/routeward/routeward/rov/RoaState -/
def k6 : Class := { plain "com/example/routeward/routeward/rov/RoaState" (some 5) with
  accessFlags := 16433
  interfaces := #[]
  cf := some (fileOf pool6 1 #[] #[] 16433 23 #[] #[{ accessFlags := 16409, nameIndex := 5, descriptorIndex := 6, attributes := #[] }, { accessFlags := 16409, nameIndex := 9, descriptorIndex := 6, attributes := #[] }, { accessFlags := 16409, nameIndex := 12, descriptorIndex := 6, attributes := #[] }, { accessFlags := 18, nameIndex := 34, descriptorIndex := 35, attributes := #[] }, { accessFlags := 4122, nameIndex := 15, descriptorIndex := 16, attributes := #[] }])
  fields := #[{ name := "VALID", type := (.object "com/example/routeward/routeward/rov/RoaState"), accessFlags := 16409, slot := 0, constantValue := 0 }, { name := "INVALID", type := (.object "com/example/routeward/routeward/rov/RoaState"), accessFlags := 16409, slot := 1, constantValue := 0 }, { name := "NOT_FOUND", type := (.object "com/example/routeward/routeward/rov/RoaState"), accessFlags := 16409, slot := 2, constantValue := 0 }, { name := "text", type := (.object "java/lang/String"), accessFlags := 18, slot := 3, constantValue := 0 }, { name := "$VALUES", type := (.array (.object "com/example/routeward/routeward/rov/RoaState")), accessFlags := 4122, slot := 3, constantValue := 0 }]
  methods := #[]
  instanceTypes := #[(.object "java/lang/String"), .int, .int, (.object "java/lang/String")]
  staticTypes := #[(.object "com/example/routeward/routeward/rov/RoaState"), (.object "com/example/routeward/routeward/rov/RoaState"), (.object "com/example/routeward/routeward/rov/RoaState"), (.array (.object "com/example/routeward/routeward/rov/RoaState"))]
  resolved := Array.replicate 66 none
  statics := some 0 }

def pool7 : Array CpInfo := pool [(1, .class_ 2), (0, u "com/example/routeward/routeward/spl/SplState"), (2, u "VALID"), (0, u "Lcom/example/routeward/routeward/spl/SplState;"), (2, u "INVALID"), (2, u "NOT_FOUND"), (2, u "$VALUES"), (0, u "[Lcom/example/routeward/routeward/spl/SplState;"), (6, .class_ 25), (1, u "java/lang/Enum"), (8, u "text"), (0, u "Ljava/lang/String;")] 30

/-- com/example/routeward/routeward/spl/SplState -/
def k7 : Class := { plain "com/example/routeward/routeward/spl/SplState" (some 5) with
  accessFlags := 16433
  interfaces := #[]
  cf := some (fileOf pool7 1 #[] #[] 16433 23 #[] #[{ accessFlags := 16409, nameIndex := 5, descriptorIndex := 6, attributes := #[] }, { accessFlags := 16409, nameIndex := 9, descriptorIndex := 6, attributes := #[] }, { accessFlags := 16409, nameIndex := 12, descriptorIndex := 6, attributes := #[] }, { accessFlags := 18, nameIndex := 34, descriptorIndex := 35, attributes := #[] }, { accessFlags := 4122, nameIndex := 15, descriptorIndex := 16, attributes := #[] }])
  fields := #[{ name := "VALID", type := (.object "com/example/routeward/routeward/spl/SplState"), accessFlags := 16409, slot := 0, constantValue := 0 }, { name := "INVALID", type := (.object "com/example/routeward/routeward/spl/SplState"), accessFlags := 16409, slot := 1, constantValue := 0 }, { name := "NOT_FOUND", type := (.object "com/example/routeward/routeward/spl/SplState"), accessFlags := 16409, slot := 2, constantValue := 0 }, { name := "text", type := (.object "java/lang/String"), accessFlags := 18, slot := 3, constantValue := 0 }, { name := "$VALUES", type := (.array (.object "com/example/routeward/routeward/spl/SplState")), accessFlags := 4122, slot := 3, constantValue := 0 }]
  methods := #[]
  instanceTypes := #[(.object "java/lang/String"), .int, .int, (.object "java/lang/String")]
  staticTypes := #[(.object "com/example/routeward/routeward/spl/SplState"), (.object "com/example/routeward/routeward/spl/SplState"), (.object "com/example/routeward/routeward/spl/SplState"), (.array (.object "com/example/routeward/routeward/spl/SplState"))]
  resolved := Array.replicate 66 none
  statics := some 1 }

def pool8 : Array CpInfo := pool [(1, .class_ 2), (0, u "com/example/routeward/routeward/spl/Eligibility"), (0, .fieldref 1 4), (0, .nameAndType 5 6), (0, u "ELIGIBLE"), (0, u "Lcom/example/routeward/routeward/spl/Eligibility;"), (0, .fieldref 1 8), (0, .nameAndType 9 6), (0, u "INELIGIBLE"), (2, u "$VALUES"), (0, u "[Lcom/example/routeward/routeward/spl/Eligibility;"), (6, .class_ 22), (1, u "java/lang/Enum"), (8, u "text"), (0, u "Ljava/lang/String;"), (0, .fieldref 34 35), (0, .class_ 36), (0, .nameAndType 37 38), (0, u "com/example/routeward/routeward/rov/RoaState"), (0, u "INVALID"), (0, u "Lcom/example/routeward/routeward/rov/RoaState;"), (0, .fieldref 40 41), (0, .class_ 42), (0, .nameAndType 37 43), (0, u "com/example/routeward/routeward/spl/SplState"), (0, u "Lcom/example/routeward/routeward/spl/SplState;"), (20, u "of"), (0, u "(Lcom/example/routeward/routeward/rov/RoaState;Lcom/example/routeward/routeward/spl/SplState;)Lcom/example/routeward/routeward/spl/Eligibility;")] 8

def k8c0 : Code := { maxStack := 2, maxLocals := 2, code := prog_34_method_4_code, exceptionTable := #[], attributes := #[] }
def k8m0 : Method := { name := "of", desc := "(Lcom/example/routeward/routeward/rov/RoaState;Lcom/example/routeward/routeward/spl/SplState;)Lcom/example/routeward/routeward/spl/Eligibility;", sig := { parameters := [(.object "com/example/routeward/routeward/rov/RoaState"), (.object "com/example/routeward/routeward/spl/SplState")], returnType := some (.object "com/example/routeward/routeward/spl/Eligibility") }, accessFlags := 9, code := some k8c0 }
/-- com/example/routeward/routeward/spl/Eligibility -/
def k8 : Class := { plain "com/example/routeward/routeward/spl/Eligibility" (some 5) with
  accessFlags := 16433
  interfaces := #[]
  cf := some (fileOf pool8 1 #[] #[{ accessFlags := 9, nameIndex := 64, descriptorIndex := 65, attributes := #[] }] 16433 20 #[] #[{ accessFlags := 16409, nameIndex := 5, descriptorIndex := 6, attributes := #[] }, { accessFlags := 16409, nameIndex := 9, descriptorIndex := 6, attributes := #[] }, { accessFlags := 18, nameIndex := 31, descriptorIndex := 32, attributes := #[] }, { accessFlags := 4122, nameIndex := 12, descriptorIndex := 13, attributes := #[] }])
  fields := #[{ name := "ELIGIBLE", type := (.object "com/example/routeward/routeward/spl/Eligibility"), accessFlags := 16409, slot := 0, constantValue := 0 }, { name := "INELIGIBLE", type := (.object "com/example/routeward/routeward/spl/Eligibility"), accessFlags := 16409, slot := 1, constantValue := 0 }, { name := "text", type := (.object "java/lang/String"), accessFlags := 18, slot := 3, constantValue := 0 }, { name := "$VALUES", type := (.array (.object "com/example/routeward/routeward/spl/Eligibility")), accessFlags := 4122, slot := 2, constantValue := 0 }]
  methods := #[k8m0]
  instanceTypes := #[(.object "java/lang/String"), .int, .int, (.object "java/lang/String")]
  staticTypes := #[(.object "com/example/routeward/routeward/spl/Eligibility"), (.object "com/example/routeward/routeward/spl/Eligibility"), (.array (.object "com/example/routeward/routeward/spl/Eligibility"))]
  resolved := Array.replicate 74 none
  statics := some 2 }

def pool9 : Array CpInfo := pool [(1, u "java/lang/Cloneable"), (0, .class_ 1), (0, u "java/lang/Object"), (0, .class_ 3)] 3

/-- java/lang/Cloneable -/
def k9 : Class := { plain "java/lang/Cloneable" (some 0) with
  accessFlags := 1537
  interfaces := #[]
  cf := some (fileOf pool9 2 #[] #[] 1537 4 #[] #[])
  fields := #[]
  methods := #[]
  instanceTypes := #[]
  staticTypes := #[]
  resolved := Array.replicate 8 none
  statics := none }

/-- the primitive boolean -/
def k10 : Class := { plain "boolean" none with kind := .primitive 'Z', accessFlags := 0x411 }
/-- [Z -/
def k11 : Class := { plain "[Z" (some 0) with kind := .array 10 .boolean, interfaces := #[9, 4], accessFlags := 1041 }

/-- the primitive byte -/
def k12 : Class := { plain "byte" none with kind := .primitive 'B', accessFlags := 0x411 }
/-- [B -/
def k13 : Class := { plain "[B" (some 0) with kind := .array 12 .byte, interfaces := #[9, 4], accessFlags := 1041 }

/-- the primitive int -/
def k14 : Class := { plain "int" none with kind := .primitive 'I', accessFlags := 0x411 }
/-- [I -/
def k15 : Class := { plain "[I" (some 0) with kind := .array 14 .int, interfaces := #[9, 4], accessFlags := 1041 }

def heap : Heap := #[{ cls := 6, slots := #[.ref 3, .ref 6, .ref 8, .null], vm := .statics 6 },
  { cls := 7, slots := #[.ref 4, .ref 7, .ref 10, .null], vm := .statics 7 },
  { cls := 8, slots := #[.ref 5, .ref 9, .null], vm := .statics 8 },
  { cls := 6, slots := #[.null, .int 0, .int 0, .null], vm := .none },
  { cls := 7, slots := #[.null, .int 0, .int 0, .null], vm := .none },
  { cls := 8, slots := #[.null, .int 0, .int 0, .null], vm := .none },
  { cls := 6, slots := #[.null, .int 1, .int 0, .null], vm := .none },
  { cls := 7, slots := #[.null, .int 1, .int 0, .null], vm := .none },
  { cls := 6, slots := #[.null, .int 2, .int 0, .null], vm := .none },
  { cls := 8, slots := #[.null, .int 0, .int 0, .null], vm := .none },
  { cls := 7, slots := #[.null, .int 2, .int 0, .null], vm := .none }]
def classes : Array Class := #[k0, k1, k2, k3, k4, k5, k6, k7, k8, k9, k10, k11, k12, k13, k14, k15]
def interned : List (Array UInt16 × Addr) := []
def slotsUsed : Nat := 43
def theMethod : MethodId := ⟨1, 1⟩
def args0 : Array Value := #[.int 5, .int 7]
def aboutOver (below : List Frame) : State where
  vm := { classes := classes, interned := interned.toArray }
  heap := heap
  slotsUsed := slotsUsed
  threads := #[{ frames := .invoking theMethod args0 :: below }]
def below0 : List Frame := [.native { method := ⟨0, 0⟩, args := #[] }]
def about1 : State := aboutOver below0
def p0 : Program := .bare "" "" ""
def e0 : Env := launch0.env 0 0 0
theorem w_frames : about1.frames = Frame.invoking theMethod args0 :: below0 := rfl
set_option maxRecDepth 65536 in
theorem w_args : argsFit about1.vm theMethod args0 = true := by decide +kernel
set_option maxRecDepth 65536 in
theorem w_heap : heapFits about1 = true := by decide +kernel
set_option maxRecDepth 65536 in
theorem w_runnable : about1.curStatus? = some .runnable := by decide +kernel
set_option maxRecDepth 65536 in
theorem w_alone : about1.alone = true := by decide +kernel
set_option maxRecDepth 65536 in
theorem w_named : about1.methodNamed? x = some theMethod := by decide +kernel
set_option maxRecDepth 65536 in
theorem w_hears : about1.hears theMethod below0 = true := by decide +kernel
set_option maxRecDepth 65536 in
theorem w_ripe : about1.ripe theMethod args0 below0 = true := by decide +kernel
theorem w_running : about1.status = .running := rfl
set_option maxRecDepth 65536 in
theorem w_room : about1.hasRoom e0.platform room_1 = true :=
  launch0.hasRoom_least _ room_1 (by decide +kernel) (by decide +kernel) (by decide +kernel) (by decide +kernel) (by decide +kernel) (by decide +kernel)
theorem allAtoms_all (ts : List Jvm.Cond) (a : Array Jvm.Value) (st : Jvm.State) : (allAtoms ts).before a st = ts.all (fun c => c.before a st) := by
  induction ts with
  | nil => rfl
  | cons c t ih =>
    show (Jvm.Cond.and c (allAtoms t)).before a st = _
    rw [Jvm.Cond.before_and, ih, List.all_cons]
def words1 : List Jvm.Cond := Jvm.Cond.code x code maxLocals ret :: tables_1
/-- a 'code' word, met by the world's own term for the bytes: nothing is compared byte by byte -/
theorem code_word {y : MethodName} {bytes : ByteArray} {mx : Nat} {rt : Option FieldType} {a : Array Value} {s : State} {m : MethodId} {meth : Method} {c : Code} (h1 : s.methodNamed? y = some m) (h2 : s.vm.method? m = some meth) (h3 : meth.code = some c) (h4 : c.code = bytes)
    (h5 : (c.maxLocals == mx && c.exceptionTable.isEmpty && decide (c.maxStack ≤ mostOperands) && decide (meth.sig.returnType = rt) && !meth.locks && decide (parseMethodDescriptor y.desc = some meth.sig)) = true) : (Jvm.Cond.code y bytes mx rt).before a s = true := by
  simp only [Bool.and_eq_true, beq_iff_eq, Bool.not_eq_true', decide_eq_true_eq] at h5
  obtain ⟨⟨⟨⟨⟨g1, g2⟩, g3⟩, g4⟩, g5⟩, g6⟩ := h5
  simp [Cond.before, Cond.holds, Cond.value, h1, h2, h3, h4, g1, g2, g3, g4, g5, g6]
def isCode : Jvm.Cond → Bool
  | .code _ _ _ _ => true
  | _ => false
theorem all_split {L : List Jvm.Cond} {P : Jvm.Cond → Bool} (h1 : L.all (fun c => isCode c || P c) = true) (h2 : ∀ c ∈ L.filter isCode, P c = true) : L.all P = true := by
  refine List.all_eq_true.mpr fun c hc => ?_
  have h := List.all_eq_true.mp h1 c hc
  rcases Bool.eq_false_or_eq_true (isCode c) with hi | hi
  · exact h2 c (List.mem_filter.mpr ⟨hc, hi⟩)
  · simpa [hi] using h
set_option maxRecDepth 65536 in
theorem w_c0 : (Jvm.Cond.code x code maxLocals ret).before args0 about1 = true := code_word (m := ⟨1, 1⟩) (meth := k1m1) (c := k1c1) (by decide +kernel) rfl rfl rfl (by decide +kernel)
set_option maxRecDepth 65536 in
theorem w_c1 : (Jvm.Cond.code ({ cls := "com/example/routeward/routeward/spl/Eligibility", name := "of", desc := "(Lcom/example/routeward/routeward/rov/RoaState;Lcom/example/routeward/routeward/spl/SplState;)Lcom/example/routeward/routeward/spl/Eligibility;" } : Jvm.MethodName) prog_34_method_4_code (2 : Nat) (Option.some (Jvm.ClassFile.FieldType.object "com/example/routeward/routeward/spl/Eligibility"))).before args0 about1 = true := code_word (m := ⟨8, 0⟩) (meth := k8m0) (c := k8c0) (by decide +kernel) rfl rfl rfl (by decide +kernel)
def codes1 : List Jvm.Cond := [Jvm.Cond.code x code maxLocals ret, Jvm.Cond.code ({ cls := "com/example/routeward/routeward/spl/Eligibility", name := "of", desc := "(Lcom/example/routeward/routeward/rov/RoaState;Lcom/example/routeward/routeward/spl/SplState;)Lcom/example/routeward/routeward/spl/Eligibility;" } : Jvm.MethodName) prog_34_method_4_code (2 : Nat) (Option.some (Jvm.ClassFile.FieldType.object "com/example/routeward/routeward/spl/Eligibility"))]
set_option maxRecDepth 65536 in
theorem codes_eq : words1.filter isCode = codes1 := rfl
theorem w_codes : ∀ c ∈ words1.filter isCode, c.before args0 about1 = true := by
  rw [codes_eq]
  intro c hc
  simp only [codes1, List.mem_cons, List.not_mem_nil, or_false] at hc
  rcases hc with rfl | rfl
  · exact w_c0
  · exact w_c1
set_option maxRecDepth 65536 in
theorem w_t1 : (words1.take 24).all (fun c => isCode c || c.before args0 about1) = true := by decide +kernel
set_option maxRecDepth 65536 in
theorem w_t2 : (words1.drop 24).all (fun c => isCode c || c.before args0 about1) = true := by decide +kernel
theorem w_tables : (allAtoms (Jvm.Cond.code x code maxLocals ret :: tables_1)).before args0 about1 = true := by
  rw [allAtoms_all]
  show words1.all (fun c => c.before args0 about1) = true
  refine all_split ?_ w_codes
  rw [← List.take_append_drop 24 words1, List.all_append, w_t1, w_t2]
  rfl
set_option maxRecDepth 65536 in
theorem w_case : (Jvm.Cond.and given_1 narrow_1).before args0 about1 = true := by decide +kernel
theorem w_applies : (headSpec (Jvm.Cond.code x code maxLocals ret :: tables_1) room_1).applies x e0.platform about1 = true :=
  (Spec.applies_iff w_frames).mpr ⟨w_running, w_runnable, w_alone, w_named, w_hears, w_ripe, w_room, w_tables⟩
theorem atStart : AtStart classFile x code maxLocals ret World_1 tables_1 room_1 Calls_1 rest_1 Pre_1 launch0 p0 e0 about1 theMethod args0 below0 :=
  ⟨lists_1, trivial, launch0.admits_env _ _ _, launch0.least_env, fairChoices_fair.cas, fairChoices_fair.clock, w_frames, w_args, w_heap, w_applies, trivial, trivial, w_case⟩
end start1
theorem witness_1 : WitnessClaimed_1 := ⟨start1.p0, start1.e0, start1.about1, start1.theMethod, start1.args0, start1.below0, start1.atStart⟩
end Jvm.Pilot.@@N@@
