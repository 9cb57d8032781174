import JvmDerived
import JvmDerived.Pilot.@@N@@Statement
import JvmDerived.Pilot.@@N@@Code
set_option linter.unusedVariables false
set_option linter.unusedSimpArgs false
namespace Jvm.Pilot.@@N@@
open Jvm Jvm.ClassFile Sem Op Lib Jvm.Free Jvm.Stand Jvm.LawKit Jvm.RoadKit Bundle Jvm.Pilot.@@N@@.Jvm.D
def own_Ends (tb : Tables) (e : Env) (below : List Frame) (P : Outcome → State → Prop) (S : State) : Prop := ∃ t o, Steps tb e below S t ∧ t.status = .running ∧ Ended t below o ∧ P o t
theorem own_to {tb : Tables} {e : Env} {below : List Frame} {P : Outcome → State → Prop} {S S' : State} (h : ∀ target, Steps tb e below S' target → Steps tb e below S target) (g : own_Ends tb e below P S') : own_Ends tb e below P S := by
  obtain ⟨t, o, h1, r⟩ := g
  exact ⟨t, o, h _ h1, r⟩
theorem own_tr {tb : Tables} {e : Env} {below : List Frame} {P : Outcome → State → Prop} {S S' : State} (h : Steps tb e below S S') (g : own_Ends tb e below P S') : own_Ends tb e below P S := by
  obtain ⟨t, o, h1, r⟩ := g
  exact ⟨t, o, h.trans h1, r⟩
theorem own_cast {tb : Tables} {e : Env} {below : List Frame} {P : Outcome → State → Prop} {T : State} {f f' : JFrame} (q : f = f') (g : own_Ends tb e below P (T.setTop f')) : own_Ends tb e below P (T.setTop f) := q ▸ g
def own_P (s : State) (Q : Option Value → Heap → List Loc → Prop) (ck sk : Nat) : Outcome → State → Prop := fun o U' => ∃ v L, o = .returned v ∧ Q v U'.heap L ∧ FrameEnd s o U' L ck sk
theorem own_leave {p : Program} {l : Launch} {e : Env} {R : Room} {s : State} {m : MethodId} {args : Array Value} {below : List Frame} {meth : Method} {c : Code} {T : State} {locs : List Loc} {cells slots : Nat} {F : JFrame} {Q : Option Value → Heap → List Loc → Prop} {ck sk : Nat}
    (X : Stand p l e R s m args below meth c T locs cells slots) {v : Option Value} (hv : meth.sig.returnType = none → v = none) (hQ : Q v T.heap locs) (hc : cells ≤ ck) (hs : slots ≤ sk)
    (hst : ∀ fs, (∀ (f : JFrame) (acts : List Action), f.method = m → f.locked = none → f.entered = [] → (doReturn e (T.setTop f) acts v).1 = T.setFrames fs) → Steps p.tables e below (T.setTop F) (T.setFrames fs)) (hlocks : meth.locks = false := by first | assumption | exact BodyLoose.notSynchronized (by assumption) | exact Body.notSynchronized (by assumption)) : own_Ends p.tables e below (own_P s Q ck sk) (T.setTop F) := by
  obtain ⟨fs, hr, hrun, hended, hW, hsame⟩ := X.leave hv hlocks
  exact ⟨_, _, hst fs hr, hrun, hended, _, _, rfl, hQ, ⟨_, rfl⟩, hW, hsame.mono hc hs⟩
def own_PW (s : State) (Q : Option Value → Heap → List Loc → Prop) (ck sk : Nat) : Outcome → State → Prop := fun o U' => ∃ v L, o = .returned v ∧ Q v U'.heap L ∧ ReturnedEndW s o U' L ck sk
theorem own_leaveW {p : Program} {l : Launch} {e : Env} {R : Room} {s : State} {vm1 : Vm} {m : MethodId} {args : Array Value} {below : List Frame} {meth : Method} {c : Code} {T : State} {locs : List Loc} {cells slots : Nat} {F : JFrame} {Q : Option Value → Heap → List Loc → Prop} {ck sk k0 : Nat}
    (X : Stand p l e R (s.setVm vm1) m args below meth c T locs cells slots) (hS : s.Since vm1 k0) (hk : k0 ≤ T.heap.size) {v : Option Value} (hv : meth.sig.returnType = none → v = none) (hQ : Q v T.heap locs) (hc : cells ≤ ck) (hs : slots ≤ sk)
    (hst : ∀ fs, (∀ (f : JFrame) (acts : List Action), f.method = m → f.locked = none → f.entered = [] → (doReturn e (T.setTop f) acts v).1 = T.setFrames fs) → Steps p.tables e below (T.setTop F) (T.setFrames fs)) (hlocks : meth.locks = false := by first | assumption | exact BodyLoose.notSynchronized (by assumption) | exact Body.notSynchronized (by assumption)) : own_Ends p.tables e below (own_PW s Q ck sk) (T.setTop F) := by
  obtain ⟨fs, hr, hrun, hended, h1, h2, h3, h4⟩ := X.leaveW hS hk hv hlocks
  exact ⟨_, _, hst fs hr, hrun, hended, _, _, rfl, hQ, h1, h2, h3, h4.mono hc hs⟩
theorem own_old_le {Z : State} {n0 : Nat} {h : Heap} (O : Old Z n0 h) : n0 ≤ h.size := O.1 ▸ O.2.1
theorem own_le {a b : Nat} (h : Nat.ble a b = true) : a ≤ b := Nat.le_of_ble_eq_true h
theorem own_lt {a b : Nat} (h : Nat.ble (a + 1) b = true) : a < b := Nat.le_of_ble_eq_true h
theorem own_irr (x : Int32) : ¬ x < x := by rw [Int32.lt_iff_toInt_lt]; omega
theorem own_eqI {args : Array Value} {s : State} {t : Term} {k : Int32} (h : (Jvm.Cond.eq t (.int k)).value args s none s [] = some true) : t.eval args s none [] s = some (.int k) := by
  obtain ⟨x, y, hx, hy, -, hk⟩ := cmp_v (Or.inl h)
  cases (show some (Value.int k) = some y from hy)
  obtain ⟨z, rfl⟩ := hk
  have e : (Term.int k).eval args s none [] s = some (.int k) := rfl
  simp only [Cond.value, hx, e, Option.some.injEq, decide_eq_true_eq] at h
  rw [hx]
  simp_all
theorem own_intne {a b : Int32} (h : a ≠ b) : Value.int a ≠ Value.int b := fun q => h (Value.int.inj q)

abbrev oM0 : MethodName := ⟨"com/example/ship_shore_exchange/shipshoreexchange/model/MsiStatusIsWithProviderPinLaw", "pick", "(I)Lcom/example/ship_shore_exchange/shipshoreexchange/model/MsiStatus;"⟩
abbrev oM1 : MethodName := ⟨"com/example/ship_shore_exchange/shipshoreexchange/model/MsiStatus", "isWithProvider", "()Z"⟩
theorem ow0 {Z : State} {a0 : Array Value} (hw : ∀ d ∈ tables_1, d.before a0 Z = true) : (Jvm.Cond.methodLink "com/example/ship_shore_exchange/shipshoreexchange/model/MsiStatusIsWithProviderPinLaw" (34 : Nat) ({ cls := "com/example/ship_shore_exchange/shipshoreexchange/model/MsiStatusIsWithProviderPinLaw", name := "pick", desc := "(I)Lcom/example/ship_shore_exchange/shipshoreexchange/model/MsiStatus;" } : Jvm.MethodName)).before a0 Z = true := hw _ (List.mem_of_getElem? (i := 0) rfl)
theorem ow1 {Z : State} {a0 : Array Value} (hw : ∀ d ∈ tables_1, d.before a0 Z = true) : (Jvm.Cond.static ({ cls := "com/example/ship_shore_exchange/shipshoreexchange/model/MsiStatusIsWithProviderPinLaw", name := "pick", desc := "(I)Lcom/example/ship_shore_exchange/shipshoreexchange/model/MsiStatus;" } : Jvm.MethodName)).before a0 Z = true := hw _ (List.mem_of_getElem? (i := 1) rfl)
theorem ow2 {Z : State} {a0 : Array Value} (hw : ∀ d ∈ tables_1, d.before a0 Z = true) : (Jvm.Cond.initialized "com/example/ship_shore_exchange/shipshoreexchange/model/MsiStatusIsWithProviderPinLaw").before a0 Z = true := hw _ (List.mem_of_getElem? (i := 2) rfl)
theorem ow3 {Z : State} {a0 : Array Value} (hw : ∀ d ∈ tables_1, d.before a0 Z = true) : (Jvm.Cond.code ({ cls := "com/example/ship_shore_exchange/shipshoreexchange/model/MsiStatusIsWithProviderPinLaw", name := "pick", desc := "(I)Lcom/example/ship_shore_exchange/shipshoreexchange/model/MsiStatus;" } : Jvm.MethodName) method_2_code (1 : Nat) (Option.some (Jvm.ClassFile.FieldType.object "com/example/ship_shore_exchange/shipshoreexchange/model/MsiStatus"))).before a0 Z = true := hw _ (List.mem_of_getElem? (i := 3) rfl)
theorem ow4 {Z : State} {a0 : Array Value} (hw : ∀ d ∈ tables_1, d.before a0 Z = true) : (Jvm.Cond.fieldLink "com/example/ship_shore_exchange/shipshoreexchange/model/MsiStatusIsWithProviderPinLaw" (7 : Nat) "com/example/ship_shore_exchange/shipshoreexchange/model/MsiStatus" "CREATED" "Lcom/example/ship_shore_exchange/shipshoreexchange/model/MsiStatus;").before a0 Z = true := hw _ (List.mem_of_getElem? (i := 4) rfl)
theorem ow5 {Z : State} {a0 : Array Value} (hw : ∀ d ∈ tables_1, d.before a0 Z = true) : (Jvm.Cond.initialized "com/example/ship_shore_exchange/shipshoreexchange/model/MsiStatus").before a0 Z = true := hw _ (List.mem_of_getElem? (i := 5) rfl)
theorem ow6 {Z : State} {a0 : Array Value} (hw : ∀ d ∈ tables_1, d.before a0 Z = true) : (Jvm.Cond.laysStatic "com/example/ship_shore_exchange/shipshoreexchange/model/MsiStatus" "CREATED" "Lcom/example/ship_shore_exchange/shipshoreexchange/model/MsiStatus;").before a0 Z = true := hw _ (List.mem_of_getElem? (i := 6) rfl)
theorem ow7 {Z : State} {a0 : Array Value} (hw : ∀ d ∈ tables_1, d.before a0 Z = true) : (Jvm.Cond.methodLink "com/example/ship_shore_exchange/shipshoreexchange/model/MsiStatusIsWithProviderPinLaw" (40 : Nat) ({ cls := "com/example/ship_shore_exchange/shipshoreexchange/model/MsiStatus", name := "isWithProvider", desc := "()Z" } : Jvm.MethodName)).before a0 Z = true := hw _ (List.mem_of_getElem? (i := 7) rfl)
theorem ow8 {Z : State} {a0 : Array Value} (hw : ∀ d ∈ tables_1, d.before a0 Z = true) : (Jvm.Cond.declares ({ cls := "com/example/ship_shore_exchange/shipshoreexchange/model/MsiStatus", name := "isWithProvider", desc := "()Z" } : Jvm.MethodName)).before a0 Z = true := hw _ (List.mem_of_getElem? (i := 8) rfl)
theorem ow9 {Z : State} {a0 : Array Value} (hw : ∀ d ∈ tables_1, d.before a0 Z = true) : (Jvm.Cond.instanceMethod ({ cls := "com/example/ship_shore_exchange/shipshoreexchange/model/MsiStatus", name := "isWithProvider", desc := "()Z" } : Jvm.MethodName)).before a0 Z = true := hw _ (List.mem_of_getElem? (i := 9) rfl)
theorem ow10 {Z : State} {a0 : Array Value} (hw : ∀ d ∈ tables_1, d.before a0 Z = true) : (Jvm.Cond.selects "com/example/ship_shore_exchange/shipshoreexchange/model/MsiStatus" ({ cls := "com/example/ship_shore_exchange/shipshoreexchange/model/MsiStatus", name := "isWithProvider", desc := "()Z" } : Jvm.MethodName) ({ cls := "com/example/ship_shore_exchange/shipshoreexchange/model/MsiStatus", name := "isWithProvider", desc := "()Z" } : Jvm.MethodName)).before a0 Z = true := hw _ (List.mem_of_getElem? (i := 10) rfl)
theorem ow11 {Z : State} {a0 : Array Value} (hw : ∀ d ∈ tables_1, d.before a0 Z = true) : (Jvm.Cond.code ({ cls := "com/example/ship_shore_exchange/shipshoreexchange/model/MsiStatus", name := "isWithProvider", desc := "()Z" } : Jvm.MethodName) prog_5_method_6_code (1 : Nat) (Option.some Jvm.ClassFile.FieldType.boolean)).before a0 Z = true := hw _ (List.mem_of_getElem? (i := 11) rfl)
theorem ow12 {Z : State} {a0 : Array Value} (hw : ∀ d ∈ tables_1, d.before a0 Z = true) : (Jvm.Cond.fieldLink "com/example/ship_shore_exchange/shipshoreexchange/model/MsiStatus" (7 : Nat) "com/example/ship_shore_exchange/shipshoreexchange/model/MsiStatus" "SCHEDULED" "Lcom/example/ship_shore_exchange/shipshoreexchange/model/MsiStatus;").before a0 Z = true := hw _ (List.mem_of_getElem? (i := 12) rfl)
theorem ow13 {Z : State} {a0 : Array Value} (hw : ∀ d ∈ tables_1, d.before a0 Z = true) : (Jvm.Cond.laysStatic "com/example/ship_shore_exchange/shipshoreexchange/model/MsiStatus" "SCHEDULED" "Lcom/example/ship_shore_exchange/shipshoreexchange/model/MsiStatus;").before a0 Z = true := hw _ (List.mem_of_getElem? (i := 13) rfl)
theorem ow14 {Z : State} {a0 : Array Value} (hw : ∀ d ∈ tables_1, d.before a0 Z = true) : (Jvm.Cond.fieldLink "com/example/ship_shore_exchange/shipshoreexchange/model/MsiStatus" (10 : Nat) "com/example/ship_shore_exchange/shipshoreexchange/model/MsiStatus" "ACTIVE" "Lcom/example/ship_shore_exchange/shipshoreexchange/model/MsiStatus;").before a0 Z = true := hw _ (List.mem_of_getElem? (i := 14) rfl)
theorem ow15 {Z : State} {a0 : Array Value} (hw : ∀ d ∈ tables_1, d.before a0 Z = true) : (Jvm.Cond.laysStatic "com/example/ship_shore_exchange/shipshoreexchange/model/MsiStatus" "ACTIVE" "Lcom/example/ship_shore_exchange/shipshoreexchange/model/MsiStatus;").before a0 Z = true := hw _ (List.mem_of_getElem? (i := 15) rfl)
theorem ow16 {Z : State} {a0 : Array Value} (hw : ∀ d ∈ tables_1, d.before a0 Z = true) : (Jvm.Cond.fieldLink "com/example/ship_shore_exchange/shipshoreexchange/model/MsiStatus" (16 : Nat) "com/example/ship_shore_exchange/shipshoreexchange/model/MsiStatus" "CANCELLING" "Lcom/example/ship_shore_exchange/shipshoreexchange/model/MsiStatus;").before a0 Z = true := hw _ (List.mem_of_getElem? (i := 16) rfl)
theorem ow17 {Z : State} {a0 : Array Value} (hw : ∀ d ∈ tables_1, d.before a0 Z = true) : (Jvm.Cond.laysStatic "com/example/ship_shore_exchange/shipshoreexchange/model/MsiStatus" "CANCELLING" "Lcom/example/ship_shore_exchange/shipshoreexchange/model/MsiStatus;").before a0 Z = true := hw _ (List.mem_of_getElem? (i := 17) rfl)
theorem ow18 {Z : State} {a0 : Array Value} (hw : ∀ d ∈ tables_1, d.before a0 Z = true) : (Jvm.Cond.fieldLink "com/example/ship_shore_exchange/shipshoreexchange/model/MsiStatusIsWithProviderPinLaw" (19 : Nat) "com/example/ship_shore_exchange/shipshoreexchange/model/MsiStatus" "FINISHED" "Lcom/example/ship_shore_exchange/shipshoreexchange/model/MsiStatus;").before a0 Z = true := hw _ (List.mem_of_getElem? (i := 18) rfl)
theorem ow19 {Z : State} {a0 : Array Value} (hw : ∀ d ∈ tables_1, d.before a0 Z = true) : (Jvm.Cond.laysStatic "com/example/ship_shore_exchange/shipshoreexchange/model/MsiStatus" "FINISHED" "Lcom/example/ship_shore_exchange/shipshoreexchange/model/MsiStatus;").before a0 Z = true := hw _ (List.mem_of_getElem? (i := 19) rfl)
theorem ow20 {Z : State} {a0 : Array Value} (hw : ∀ d ∈ tables_1, d.before a0 Z = true) : (Jvm.Cond.fieldLink "com/example/ship_shore_exchange/shipshoreexchange/model/MsiStatusIsWithProviderPinLaw" (28 : Nat) "com/example/ship_shore_exchange/shipshoreexchange/model/MsiStatus" "BROADCAST_ERROR" "Lcom/example/ship_shore_exchange/shipshoreexchange/model/MsiStatus;").before a0 Z = true := hw _ (List.mem_of_getElem? (i := 20) rfl)
theorem ow21 {Z : State} {a0 : Array Value} (hw : ∀ d ∈ tables_1, d.before a0 Z = true) : (Jvm.Cond.laysStatic "com/example/ship_shore_exchange/shipshoreexchange/model/MsiStatus" "BROADCAST_ERROR" "Lcom/example/ship_shore_exchange/shipshoreexchange/model/MsiStatus;").before a0 Z = true := hw _ (List.mem_of_getElem? (i := 21) rfl)
theorem ow22 {Z : State} {a0 : Array Value} (hw : ∀ d ∈ tables_1, d.before a0 Z = true) : (Jvm.Cond.fieldLink "com/example/ship_shore_exchange/shipshoreexchange/model/MsiStatusIsWithProviderPinLaw" (31 : Nat) "com/example/ship_shore_exchange/shipshoreexchange/model/MsiStatus" "CANCEL_ERROR" "Lcom/example/ship_shore_exchange/shipshoreexchange/model/MsiStatus;").before a0 Z = true := hw _ (List.mem_of_getElem? (i := 22) rfl)
theorem ow23 {Z : State} {a0 : Array Value} (hw : ∀ d ∈ tables_1, d.before a0 Z = true) : (Jvm.Cond.laysStatic "com/example/ship_shore_exchange/shipshoreexchange/model/MsiStatus" "CANCEL_ERROR" "Lcom/example/ship_shore_exchange/shipshoreexchange/model/MsiStatus;").before a0 Z = true := hw _ (List.mem_of_getElem? (i := 23) rfl)
theorem ow24 {Z : State} {a0 : Array Value} (hw : ∀ d ∈ tables_1, d.before a0 Z = true) : (Jvm.Cond.fieldLink "com/example/ship_shore_exchange/shipshoreexchange/model/MsiStatusIsWithProviderPinLaw" (16 : Nat) "com/example/ship_shore_exchange/shipshoreexchange/model/MsiStatus" "ACTIVE" "Lcom/example/ship_shore_exchange/shipshoreexchange/model/MsiStatus;").before a0 Z = true := hw _ (List.mem_of_getElem? (i := 24) rfl)
theorem ow25 {Z : State} {a0 : Array Value} (hw : ∀ d ∈ tables_1, d.before a0 Z = true) : (Jvm.Cond.fieldLink "com/example/ship_shore_exchange/shipshoreexchange/model/MsiStatusIsWithProviderPinLaw" (13 : Nat) "com/example/ship_shore_exchange/shipshoreexchange/model/MsiStatus" "SCHEDULED" "Lcom/example/ship_shore_exchange/shipshoreexchange/model/MsiStatus;").before a0 Z = true := hw _ (List.mem_of_getElem? (i := 25) rfl)
theorem ow26 {Z : State} {a0 : Array Value} (hw : ∀ d ∈ tables_1, d.before a0 Z = true) : (Jvm.Cond.fieldLink "com/example/ship_shore_exchange/shipshoreexchange/model/MsiStatusIsWithProviderPinLaw" (22 : Nat) "com/example/ship_shore_exchange/shipshoreexchange/model/MsiStatus" "CANCELLING" "Lcom/example/ship_shore_exchange/shipshoreexchange/model/MsiStatus;").before a0 Z = true := hw _ (List.mem_of_getElem? (i := 26) rfl)
theorem ow27 {Z : State} {a0 : Array Value} (hw : ∀ d ∈ tables_1, d.before a0 Z = true) : (Jvm.Cond.fieldLink "com/example/ship_shore_exchange/shipshoreexchange/model/MsiStatusIsWithProviderPinLaw" (25 : Nat) "com/example/ship_shore_exchange/shipshoreexchange/model/MsiStatus" "CANCELLED" "Lcom/example/ship_shore_exchange/shipshoreexchange/model/MsiStatus;").before a0 Z = true := hw _ (List.mem_of_getElem? (i := 27) rfl)
theorem ow28 {Z : State} {a0 : Array Value} (hw : ∀ d ∈ tables_1, d.before a0 Z = true) : (Jvm.Cond.laysStatic "com/example/ship_shore_exchange/shipshoreexchange/model/MsiStatus" "CANCELLED" "Lcom/example/ship_shore_exchange/shipshoreexchange/model/MsiStatus;").before a0 Z = true := hw _ (List.mem_of_getElem? (i := 28) rfl)
def own_pick (i : Int32) (c0 : Addr) (c1 : Addr) (c2 : Addr) (c3 : Addr) (c4 : Addr) (c5 : Addr) (c6 : Addr) (c7 : Addr) : Addr := if i = 0 then c0 else if i = 1 then c1 else if i = 2 then c2 else if i = 3 then c3 else if i = 4 then c4 else if i = 5 then c5 else if i = 6 then c6 else c7
theorem own_pick_0 (c0 : Addr) (c1 : Addr) (c2 : Addr) (c3 : Addr) (c4 : Addr) (c5 : Addr) (c6 : Addr) (c7 : Addr) : own_pick 0 c0 c1 c2 c3 c4 c5 c6 c7 = c0 := by simp [own_pick]
theorem own_pick_1 (c0 : Addr) (c1 : Addr) (c2 : Addr) (c3 : Addr) (c4 : Addr) (c5 : Addr) (c6 : Addr) (c7 : Addr) : own_pick 1 c0 c1 c2 c3 c4 c5 c6 c7 = c1 := by simp [own_pick]
theorem own_pick_2 (c0 : Addr) (c1 : Addr) (c2 : Addr) (c3 : Addr) (c4 : Addr) (c5 : Addr) (c6 : Addr) (c7 : Addr) : own_pick 2 c0 c1 c2 c3 c4 c5 c6 c7 = c2 := by simp [own_pick]
theorem own_pick_3 (c0 : Addr) (c1 : Addr) (c2 : Addr) (c3 : Addr) (c4 : Addr) (c5 : Addr) (c6 : Addr) (c7 : Addr) : own_pick 3 c0 c1 c2 c3 c4 c5 c6 c7 = c3 := by simp [own_pick]
theorem own_pick_4 (c0 : Addr) (c1 : Addr) (c2 : Addr) (c3 : Addr) (c4 : Addr) (c5 : Addr) (c6 : Addr) (c7 : Addr) : own_pick 4 c0 c1 c2 c3 c4 c5 c6 c7 = c4 := by simp [own_pick]
theorem own_pick_5 (c0 : Addr) (c1 : Addr) (c2 : Addr) (c3 : Addr) (c4 : Addr) (c5 : Addr) (c6 : Addr) (c7 : Addr) : own_pick 5 c0 c1 c2 c3 c4 c5 c6 c7 = c5 := by simp [own_pick]
theorem own_pick_6 (c0 : Addr) (c1 : Addr) (c2 : Addr) (c3 : Addr) (c4 : Addr) (c5 : Addr) (c6 : Addr) (c7 : Addr) : own_pick 6 c0 c1 c2 c3 c4 c5 c6 c7 = c6 := by simp [own_pick]
theorem own_pick_7 (c0 : Addr) (c1 : Addr) (c2 : Addr) (c3 : Addr) (c4 : Addr) (c5 : Addr) (c6 : Addr) (c7 : Addr) : own_pick 7 c0 c1 c2 c3 c4 c5 c6 c7 = c7 := by simp [own_pick]
def own_is (a c1 c2 c4 : Addr) : Int32 := if a = c1 ∨ a = c2 ∨ a = c4 then 1 else 0
theorem own_is_no {a c1 c2 c4 : Addr} (h1 : a ≠ c1) (h2 : a ≠ c2) (h4 : a ≠ c4) : own_is a c1 c2 c4 = 0 := by simp [own_is, h1, h2, h4]
theorem own_is_yes {a c1 c2 c4 : Addr} (h : a = c1 ∨ a = c2 ∨ a = c4) : own_is a c1 c2 c4 = 1 := if_pos h
theorem own_and7 (k : Int32) : k &&& 7 = 0 ∨ k &&& 7 = 1 ∨ k &&& 7 = 2 ∨ k &&& 7 = 3 ∨ k &&& 7 = 4 ∨ k &&& 7 = 5 ∨ k &&& 7 = 6 ∨ k &&& 7 = 7 := by
  have h := c_and k 7 (by decide)
  have e : (7 : Int32).toInt = 7 := by decide
  rw [e] at h
  simp only [← Int32.toInt_inj, show (0 : Int32).toInt = 0 by decide, show (1 : Int32).toInt = 1 by decide, show (2 : Int32).toInt = 2 by decide, show (3 : Int32).toInt = 3 by decide, show (4 : Int32).toInt = 4 by decide, show (5 : Int32).toInt = 5 by decide, show (6 : Int32).toInt = 6 by decide, show (7 : Int32).toInt = 7 by decide]
  omega
theorem d1_0 : decode method_2_code 0 = .ok (.iload_n 0, 1) := by decide +kernel
theorem d1_1 : decode method_2_code 1 = .ok (.ifCond .ne 7, 3) := by decide +kernel
theorem d1_4 : decode method_2_code 4 = .ok (.getstatic 7, 3) := by decide +kernel
theorem d1_7 : decode method_2_code 7 = .ok (.areturn, 1) := by decide +kernel
theorem d1_8 : decode method_2_code 8 = .ok (.iload_n 0, 1) := by decide +kernel
theorem d1_9 : decode method_2_code 9 = .ok (.iconst 1, 1) := by decide +kernel
theorem d1_10 : decode method_2_code 10 = .ok (.if_icmp .ne 7, 3) := by decide +kernel
theorem d1_13 : decode method_2_code 13 = .ok (.getstatic 13, 3) := by decide +kernel
theorem d1_16 : decode method_2_code 16 = .ok (.areturn, 1) := by decide +kernel
theorem d1_17 : decode method_2_code 17 = .ok (.iload_n 0, 1) := by decide +kernel
theorem d1_18 : decode method_2_code 18 = .ok (.iconst 2, 1) := by decide +kernel
theorem d1_19 : decode method_2_code 19 = .ok (.if_icmp .ne 7, 3) := by decide +kernel
theorem d1_22 : decode method_2_code 22 = .ok (.getstatic 16, 3) := by decide +kernel
theorem d1_25 : decode method_2_code 25 = .ok (.areturn, 1) := by decide +kernel
theorem d1_26 : decode method_2_code 26 = .ok (.iload_n 0, 1) := by decide +kernel
theorem d1_27 : decode method_2_code 27 = .ok (.iconst 3, 1) := by decide +kernel
theorem d1_28 : decode method_2_code 28 = .ok (.if_icmp .ne 7, 3) := by decide +kernel
theorem d1_31 : decode method_2_code 31 = .ok (.getstatic 19, 3) := by decide +kernel
theorem d1_34 : decode method_2_code 34 = .ok (.areturn, 1) := by decide +kernel
theorem d1_35 : decode method_2_code 35 = .ok (.iload_n 0, 1) := by decide +kernel
theorem d1_36 : decode method_2_code 36 = .ok (.iconst 4, 1) := by decide +kernel
theorem d1_37 : decode method_2_code 37 = .ok (.if_icmp .ne 7, 3) := by decide +kernel
theorem d1_40 : decode method_2_code 40 = .ok (.getstatic 22, 3) := by decide +kernel
theorem d1_43 : decode method_2_code 43 = .ok (.areturn, 1) := by decide +kernel
theorem d1_44 : decode method_2_code 44 = .ok (.iload_n 0, 1) := by decide +kernel
theorem d1_45 : decode method_2_code 45 = .ok (.iconst 5, 1) := by decide +kernel
theorem d1_46 : decode method_2_code 46 = .ok (.if_icmp .ne 7, 3) := by decide +kernel
theorem d1_49 : decode method_2_code 49 = .ok (.getstatic 25, 3) := by decide +kernel
theorem d1_52 : decode method_2_code 52 = .ok (.areturn, 1) := by decide +kernel
theorem d1_53 : decode method_2_code 53 = .ok (.iload_n 0, 1) := by decide +kernel
theorem d1_54 : decode method_2_code 54 = .ok (.bipush 6, 2) := by decide +kernel
theorem d1_56 : decode method_2_code 56 = .ok (.if_icmp .ne 7, 3) := by decide +kernel
theorem d1_59 : decode method_2_code 59 = .ok (.getstatic 28, 3) := by decide +kernel
theorem d1_62 : decode method_2_code 62 = .ok (.areturn, 1) := by decide +kernel
theorem d1_63 : decode method_2_code 63 = .ok (.getstatic 31, 3) := by decide +kernel
theorem d1_66 : decode method_2_code 66 = .ok (.areturn, 1) := by decide +kernel
theorem pn_1 : plainName "com/example/ship_shore_exchange/shipshoreexchange/model/MsiStatusIsWithProviderPinLaw" = true := by first | (simp [plainName, overriddenIn]; done) | decide +kernel
theorem ef_rm1 (m : MethodId) (i : Int32) : entryFrame m #[(.int i)] 1 = mkF m 0 #[.val (.int i)] [] := by first | (simp [entryFrame, mkF, argsToLocals, Value.category]; done) | rfl | (rcases ref_cases hrf with rfl | ⟨q, rfl⟩ <;> rfl)
def Q_rm1 (Z : State) (i : Int32) (c0 : Addr) (c1 : Addr) (c2 : Addr) (c3 : Addr) (c4 : Addr) (c5 : Addr) (c6 : Addr) (c7 : Addr) (h0 : Heap) (n0 : Nat) (v : Option Value) (h : Heap) (L : List Loc) : Prop := v = some (.ref (own_pick i c0 c1 c2 c3 c4 c5 c6 c7)) ∧ Fr n0 L ∧ h = h0
set_option maxRecDepth 65536 in
set_option maxHeartbeats 40000000 in
theorem rm1 (l : Launch) (Z : State) (a0 : Array Value) (hw : ∀ d ∈ tables_1, d.before a0 Z = true) (ws : List Jvm.Cond) (i : Int32) (c0 : Addr) (c1 : Addr) (c2 : Addr) (c3 : Addr) (c4 : Addr) (c5 : Addr) (c6 : Addr) (c7 : Addr) (h0 : Heap) (n0 : Nat) (O0 : Old Z n0 h0) (S_c0 : Sta Z Z.heap "com/example/ship_shore_exchange/shipshoreexchange/model/MsiStatus" "CREATED" "Lcom/example/ship_shore_exchange/shipshoreexchange/model/MsiStatus;" (.ref c0)) (S_c1 : Sta Z Z.heap "com/example/ship_shore_exchange/shipshoreexchange/model/MsiStatus" "SCHEDULED" "Lcom/example/ship_shore_exchange/shipshoreexchange/model/MsiStatus;" (.ref c1)) (S_c2 : Sta Z Z.heap "com/example/ship_shore_exchange/shipshoreexchange/model/MsiStatus" "ACTIVE" "Lcom/example/ship_shore_exchange/shipshoreexchange/model/MsiStatus;" (.ref c2)) (S_c3 : Sta Z Z.heap "com/example/ship_shore_exchange/shipshoreexchange/model/MsiStatus" "FINISHED" "Lcom/example/ship_shore_exchange/shipshoreexchange/model/MsiStatus;" (.ref c3)) (S_c4 : Sta Z Z.heap "com/example/ship_shore_exchange/shipshoreexchange/model/MsiStatus" "CANCELLING" "Lcom/example/ship_shore_exchange/shipshoreexchange/model/MsiStatus;" (.ref c4)) (S_c5 : Sta Z Z.heap "com/example/ship_shore_exchange/shipshoreexchange/model/MsiStatus" "CANCELLED" "Lcom/example/ship_shore_exchange/shipshoreexchange/model/MsiStatus;" (.ref c5)) (S_c6 : Sta Z Z.heap "com/example/ship_shore_exchange/shipshoreexchange/model/MsiStatus" "BROADCAST_ERROR" "Lcom/example/ship_shore_exchange/shipshoreexchange/model/MsiStatus;" (.ref c6)) (S_c7 : Sta Z Z.heap "com/example/ship_shore_exchange/shipshoreexchange/model/MsiStatus" "CANCEL_ERROR" "Lcom/example/ship_shore_exchange/shipshoreexchange/model/MsiStatus;" (.ref c7)) :
    MetFree l oM0 (head1 (Jvm.Cond.code oM0 method_2_code 1 (some (.object "com/example/ship_shore_exchange/shipshoreexchange/model/MsiStatus")) :: ws) ({ frames := 0, cells := 0, slots := 0, locals := 0 } : Room)) (fun aq_ U => aq_ = #[(.int i)] ∧ Z.Warmed39 U.vm ∧ U.heap = h0) (fun _ _ _ _ _ => True) (fun _ U o U' => ∃ v L, o = .returned v ∧ Q_rm1 Z i c0 c1 c2 c3 c4 c5 c6 c7 h0 n0 v U'.heap L ∧ FrameEnd U o U' L ({ frames := 0, cells := 0, slots := 0, locals := 0 } : Room).cells ({ frames := 0, cells := 0, slots := 0, locals := 0 } : Room).slots) := by
  refine MetFree.of_bodySF (plainFor_of_name pn_1) hisR ?_
  intro p e s m args below meth c s₁ Bd hml0 hP hK
  obtain ⟨rfl, hZ, hh⟩ := hP
  have hx := Bd.exec
  have hby := Bd.bytes
  have hml : c.maxLocals = 1 := hml0
  have hown : s.vm.findClass "com/example/ship_shore_exchange/shipshoreexchange/model/MsiStatusIsWithProviderPinLaw" = some m.cls := findClass_of_methodNamed Bd.named
  have hnm := (name_of_methodNamed Bd.named Bd.method).1
  have X0 : Stand p l e ({ frames := 0, cells := 0, slots := 0, locals := 0 } : Room) s m #[(.int i)] below meth c s₁ [] 0 0 := Stand.of_body Bd
  have e0 : s₁.heap = h0 := by rw [← hh, Bd.state]; rfl
  have N0 := Fr.nil n0
  show own_Ends p.tables e below (own_P s (Q_rm1 Z i c0 c1 c2 c3 c4 c5 c6 c7 h0 n0) ({ frames := 0, cells := 0, slots := 0, locals := 0 } : Room).cells ({ frames := 0, cells := 0, slots := 0, locals := 0 } : Room).slots) _
  refine own_cast (ef_rm1 m i) ?_
  show own_Ends _ _ _ _ (s₁.setTop (mkF m 0 #[.val (.int i)] []))
  refine own_to (fun _ kont => XS.iloadN X0.here hx rfl (hb hby d1_0) rfl kont) ?_
  show own_Ends _ _ _ _ (s₁.setTop (mkF m 1 #[.val (.int i)] [(.int i)]))
  by_cases hc1_1 : i = (0 : Int32)
  · -- pc 1: i = (0 : Int32)
    refine own_to (fun _ kont => XS.ifNo X0.here hx rfl (hb hby d1_1) rfl ((if0 _ _).trans (teq hc1_1).2) kont) ?_
    show own_Ends _ _ _ _ (s₁.setTop (mkF m 4 #[.val (.int i)] []))
    obtain ⟨T2, X2, e2, st2⟩ := getS2 X0 hx hZ hown (host := "") (Or.inl (ow4 hw)) Via.refl e0 (S_c0.ext O0.2) (g := (mkF m 4 #[.val (.int i)] [])) rfl (hb hby d1_4)
    refine own_to st2 ?_
    show own_Ends _ _ _ _ (T2.setTop (mkF m 7 #[.val (.int i)] [(.ref c0)]))
    refine own_leave X2 (v := some (.ref c0)) (fun h => by rw [Bd.returns] at h; cases h) ?_ (by decide) (by decide) (fun fs hr => retOut X2 hx Bd.returns rfl (Or.inr (Or.inr (Or.inr (Or.inr ⟨rfl, rfl, rfl⟩)))) (hb hby d1_7) hr)
    show Q_rm1 Z i c0 c1 c2 c3 c4 c5 c6 c7 h0 n0 _ T2.heap _
    rw [e2]
    exact ⟨by simp [own_pick, hc1_1], N0, rfl⟩
  · -- pc 1: not i = (0 : Int32)
    refine own_to (fun _ kont => XS.ifYes X0.here hx rfl (pc0 := 1) (pc' := 8) rfl (hb hby d1_1) rfl ((if0 _ _).trans (feq hc1_1).2) (by decide) (by decide) kont) ?_
    show own_Ends _ _ _ _ (s₁.setTop (mkF m 8 #[.val (.int i)] []))
    refine own_to (fun _ kont => XS.iloadN X0.here hx rfl (hb hby d1_8) rfl kont) ?_
    show own_Ends _ _ _ _ (s₁.setTop (mkF m 9 #[.val (.int i)] [(.int i)]))
    refine own_to (fun _ kont => XS.iconst X0.here hx rfl (hb hby d1_9) kont) ?_
    show own_Ends _ _ _ _ (s₁.setTop (mkF m 10 #[.val (.int i)] [(.int 1), (.int i)]))
    by_cases hc10_3 : i = (1 : Int32)
    · -- pc 10: i = (1 : Int32)
      refine own_to (fun _ kont => XS.icmpNo X0.here hx rfl (hb hby d1_10) rfl (teq hc10_3).2 kont) ?_
      show own_Ends _ _ _ _ (s₁.setTop (mkF m 13 #[.val (.int i)] []))
      obtain ⟨T4, X4, e4, st4⟩ := getS2 X0 hx hZ hown (host := "") (Or.inl (ow25 hw)) Via.refl e0 (S_c1.ext O0.2) (g := (mkF m 13 #[.val (.int i)] [])) rfl (hb hby d1_13)
      refine own_to st4 ?_
      show own_Ends _ _ _ _ (T4.setTop (mkF m 16 #[.val (.int i)] [(.ref c1)]))
      refine own_leave X4 (v := some (.ref c1)) (fun h => by rw [Bd.returns] at h; cases h) ?_ (by decide) (by decide) (fun fs hr => retOut X4 hx Bd.returns rfl (Or.inr (Or.inr (Or.inr (Or.inr ⟨rfl, rfl, rfl⟩)))) (hb hby d1_16) hr)
      show Q_rm1 Z i c0 c1 c2 c3 c4 c5 c6 c7 h0 n0 _ T4.heap _
      rw [e4]
      exact ⟨by simp [own_pick, hc1_1, hc10_3], N0, rfl⟩
    · -- pc 10: not i = (1 : Int32)
      refine own_to (fun _ kont => XS.icmpYes X0.here hx rfl (pc0 := 10) (pc' := 17) rfl (hb hby d1_10) rfl (feq hc10_3).2 (by decide) (by decide) kont) ?_
      show own_Ends _ _ _ _ (s₁.setTop (mkF m 17 #[.val (.int i)] []))
      refine own_to (fun _ kont => XS.iloadN X0.here hx rfl (hb hby d1_17) rfl kont) ?_
      show own_Ends _ _ _ _ (s₁.setTop (mkF m 18 #[.val (.int i)] [(.int i)]))
      refine own_to (fun _ kont => XS.iconst X0.here hx rfl (hb hby d1_18) kont) ?_
      show own_Ends _ _ _ _ (s₁.setTop (mkF m 19 #[.val (.int i)] [(.int 2), (.int i)]))
      by_cases hc19_5 : i = (2 : Int32)
      · -- pc 19: i = (2 : Int32)
        refine own_to (fun _ kont => XS.icmpNo X0.here hx rfl (hb hby d1_19) rfl (teq hc19_5).2 kont) ?_
        show own_Ends _ _ _ _ (s₁.setTop (mkF m 22 #[.val (.int i)] []))
        obtain ⟨T6, X6, e6, st6⟩ := getS2 X0 hx hZ hown (host := "") (Or.inl (ow24 hw)) Via.refl e0 (S_c2.ext O0.2) (g := (mkF m 22 #[.val (.int i)] [])) rfl (hb hby d1_22)
        refine own_to st6 ?_
        show own_Ends _ _ _ _ (T6.setTop (mkF m 25 #[.val (.int i)] [(.ref c2)]))
        refine own_leave X6 (v := some (.ref c2)) (fun h => by rw [Bd.returns] at h; cases h) ?_ (by decide) (by decide) (fun fs hr => retOut X6 hx Bd.returns rfl (Or.inr (Or.inr (Or.inr (Or.inr ⟨rfl, rfl, rfl⟩)))) (hb hby d1_25) hr)
        show Q_rm1 Z i c0 c1 c2 c3 c4 c5 c6 c7 h0 n0 _ T6.heap _
        rw [e6]
        exact ⟨by simp [own_pick, hc1_1, hc10_3, hc19_5], N0, rfl⟩
      · -- pc 19: not i = (2 : Int32)
        refine own_to (fun _ kont => XS.icmpYes X0.here hx rfl (pc0 := 19) (pc' := 26) rfl (hb hby d1_19) rfl (feq hc19_5).2 (by decide) (by decide) kont) ?_
        show own_Ends _ _ _ _ (s₁.setTop (mkF m 26 #[.val (.int i)] []))
        refine own_to (fun _ kont => XS.iloadN X0.here hx rfl (hb hby d1_26) rfl kont) ?_
        show own_Ends _ _ _ _ (s₁.setTop (mkF m 27 #[.val (.int i)] [(.int i)]))
        refine own_to (fun _ kont => XS.iconst X0.here hx rfl (hb hby d1_27) kont) ?_
        show own_Ends _ _ _ _ (s₁.setTop (mkF m 28 #[.val (.int i)] [(.int 3), (.int i)]))
        by_cases hc28_7 : i = (3 : Int32)
        · -- pc 28: i = (3 : Int32)
          refine own_to (fun _ kont => XS.icmpNo X0.here hx rfl (hb hby d1_28) rfl (teq hc28_7).2 kont) ?_
          show own_Ends _ _ _ _ (s₁.setTop (mkF m 31 #[.val (.int i)] []))
          obtain ⟨T8, X8, e8, st8⟩ := getS2 X0 hx hZ hown (host := "") (Or.inl (ow18 hw)) Via.refl e0 (S_c3.ext O0.2) (g := (mkF m 31 #[.val (.int i)] [])) rfl (hb hby d1_31)
          refine own_to st8 ?_
          show own_Ends _ _ _ _ (T8.setTop (mkF m 34 #[.val (.int i)] [(.ref c3)]))
          refine own_leave X8 (v := some (.ref c3)) (fun h => by rw [Bd.returns] at h; cases h) ?_ (by decide) (by decide) (fun fs hr => retOut X8 hx Bd.returns rfl (Or.inr (Or.inr (Or.inr (Or.inr ⟨rfl, rfl, rfl⟩)))) (hb hby d1_34) hr)
          show Q_rm1 Z i c0 c1 c2 c3 c4 c5 c6 c7 h0 n0 _ T8.heap _
          rw [e8]
          exact ⟨by simp [own_pick, hc1_1, hc10_3, hc19_5, hc28_7], N0, rfl⟩
        · -- pc 28: not i = (3 : Int32)
          refine own_to (fun _ kont => XS.icmpYes X0.here hx rfl (pc0 := 28) (pc' := 35) rfl (hb hby d1_28) rfl (feq hc28_7).2 (by decide) (by decide) kont) ?_
          show own_Ends _ _ _ _ (s₁.setTop (mkF m 35 #[.val (.int i)] []))
          refine own_to (fun _ kont => XS.iloadN X0.here hx rfl (hb hby d1_35) rfl kont) ?_
          show own_Ends _ _ _ _ (s₁.setTop (mkF m 36 #[.val (.int i)] [(.int i)]))
          refine own_to (fun _ kont => XS.iconst X0.here hx rfl (hb hby d1_36) kont) ?_
          show own_Ends _ _ _ _ (s₁.setTop (mkF m 37 #[.val (.int i)] [(.int 4), (.int i)]))
          by_cases hc37_9 : i = (4 : Int32)
          · -- pc 37: i = (4 : Int32)
            refine own_to (fun _ kont => XS.icmpNo X0.here hx rfl (hb hby d1_37) rfl (teq hc37_9).2 kont) ?_
            show own_Ends _ _ _ _ (s₁.setTop (mkF m 40 #[.val (.int i)] []))
            obtain ⟨T10, X10, e10, st10⟩ := getS2 X0 hx hZ hown (host := "") (Or.inl (ow26 hw)) Via.refl e0 (S_c4.ext O0.2) (g := (mkF m 40 #[.val (.int i)] [])) rfl (hb hby d1_40)
            refine own_to st10 ?_
            show own_Ends _ _ _ _ (T10.setTop (mkF m 43 #[.val (.int i)] [(.ref c4)]))
            refine own_leave X10 (v := some (.ref c4)) (fun h => by rw [Bd.returns] at h; cases h) ?_ (by decide) (by decide) (fun fs hr => retOut X10 hx Bd.returns rfl (Or.inr (Or.inr (Or.inr (Or.inr ⟨rfl, rfl, rfl⟩)))) (hb hby d1_43) hr)
            show Q_rm1 Z i c0 c1 c2 c3 c4 c5 c6 c7 h0 n0 _ T10.heap _
            rw [e10]
            exact ⟨by simp [own_pick, hc1_1, hc10_3, hc19_5, hc28_7, hc37_9], N0, rfl⟩
          · -- pc 37: not i = (4 : Int32)
            refine own_to (fun _ kont => XS.icmpYes X0.here hx rfl (pc0 := 37) (pc' := 44) rfl (hb hby d1_37) rfl (feq hc37_9).2 (by decide) (by decide) kont) ?_
            show own_Ends _ _ _ _ (s₁.setTop (mkF m 44 #[.val (.int i)] []))
            refine own_to (fun _ kont => XS.iloadN X0.here hx rfl (hb hby d1_44) rfl kont) ?_
            show own_Ends _ _ _ _ (s₁.setTop (mkF m 45 #[.val (.int i)] [(.int i)]))
            refine own_to (fun _ kont => XS.iconst X0.here hx rfl (hb hby d1_45) kont) ?_
            show own_Ends _ _ _ _ (s₁.setTop (mkF m 46 #[.val (.int i)] [(.int 5), (.int i)]))
            by_cases hc46_11 : i = (5 : Int32)
            · -- pc 46: i = (5 : Int32)
              refine own_to (fun _ kont => XS.icmpNo X0.here hx rfl (hb hby d1_46) rfl (teq hc46_11).2 kont) ?_
              show own_Ends _ _ _ _ (s₁.setTop (mkF m 49 #[.val (.int i)] []))
              obtain ⟨T12, X12, e12, st12⟩ := getS2 X0 hx hZ hown (host := "") (Or.inl (ow27 hw)) Via.refl e0 (S_c5.ext O0.2) (g := (mkF m 49 #[.val (.int i)] [])) rfl (hb hby d1_49)
              refine own_to st12 ?_
              show own_Ends _ _ _ _ (T12.setTop (mkF m 52 #[.val (.int i)] [(.ref c5)]))
              refine own_leave X12 (v := some (.ref c5)) (fun h => by rw [Bd.returns] at h; cases h) ?_ (by decide) (by decide) (fun fs hr => retOut X12 hx Bd.returns rfl (Or.inr (Or.inr (Or.inr (Or.inr ⟨rfl, rfl, rfl⟩)))) (hb hby d1_52) hr)
              show Q_rm1 Z i c0 c1 c2 c3 c4 c5 c6 c7 h0 n0 _ T12.heap _
              rw [e12]
              exact ⟨by simp [own_pick, hc1_1, hc10_3, hc19_5, hc28_7, hc37_9, hc46_11], N0, rfl⟩
            · -- pc 46: not i = (5 : Int32)
              refine own_to (fun _ kont => XS.icmpYes X0.here hx rfl (pc0 := 46) (pc' := 53) rfl (hb hby d1_46) rfl (feq hc46_11).2 (by decide) (by decide) kont) ?_
              show own_Ends _ _ _ _ (s₁.setTop (mkF m 53 #[.val (.int i)] []))
              refine own_to (fun _ kont => XS.iloadN X0.here hx rfl (hb hby d1_53) rfl kont) ?_
              show own_Ends _ _ _ _ (s₁.setTop (mkF m 54 #[.val (.int i)] [(.int i)]))
              refine own_to (fun _ kont => XS.bipush X0.here hx rfl (hb hby d1_54) kont) ?_
              show own_Ends _ _ _ _ (s₁.setTop (mkF m 56 #[.val (.int i)] [(.int 6), (.int i)]))
              by_cases hc56_13 : i = (6 : Int32)
              · -- pc 56: i = (6 : Int32)
                refine own_to (fun _ kont => XS.icmpNo X0.here hx rfl (hb hby d1_56) rfl (teq hc56_13).2 kont) ?_
                show own_Ends _ _ _ _ (s₁.setTop (mkF m 59 #[.val (.int i)] []))
                obtain ⟨T14, X14, e14, st14⟩ := getS2 X0 hx hZ hown (host := "") (Or.inl (ow20 hw)) Via.refl e0 (S_c6.ext O0.2) (g := (mkF m 59 #[.val (.int i)] [])) rfl (hb hby d1_59)
                refine own_to st14 ?_
                show own_Ends _ _ _ _ (T14.setTop (mkF m 62 #[.val (.int i)] [(.ref c6)]))
                refine own_leave X14 (v := some (.ref c6)) (fun h => by rw [Bd.returns] at h; cases h) ?_ (by decide) (by decide) (fun fs hr => retOut X14 hx Bd.returns rfl (Or.inr (Or.inr (Or.inr (Or.inr ⟨rfl, rfl, rfl⟩)))) (hb hby d1_62) hr)
                show Q_rm1 Z i c0 c1 c2 c3 c4 c5 c6 c7 h0 n0 _ T14.heap _
                rw [e14]
                exact ⟨by simp [own_pick, hc1_1, hc10_3, hc19_5, hc28_7, hc37_9, hc46_11, hc56_13], N0, rfl⟩
              · -- pc 56: not i = (6 : Int32)
                refine own_to (fun _ kont => XS.icmpYes X0.here hx rfl (pc0 := 56) (pc' := 63) rfl (hb hby d1_56) rfl (feq hc56_13).2 (by decide) (by decide) kont) ?_
                show own_Ends _ _ _ _ (s₁.setTop (mkF m 63 #[.val (.int i)] []))
                obtain ⟨T15, X15, e15, st15⟩ := getS2 X0 hx hZ hown (host := "") (Or.inl (ow22 hw)) Via.refl e0 (S_c7.ext O0.2) (g := (mkF m 63 #[.val (.int i)] [])) rfl (hb hby d1_63)
                refine own_to st15 ?_
                show own_Ends _ _ _ _ (T15.setTop (mkF m 66 #[.val (.int i)] [(.ref c7)]))
                refine own_leave X15 (v := some (.ref c7)) (fun h => by rw [Bd.returns] at h; cases h) ?_ (by decide) (by decide) (fun fs hr => retOut X15 hx Bd.returns rfl (Or.inr (Or.inr (Or.inr (Or.inr ⟨rfl, rfl, rfl⟩)))) (hb hby d1_66) hr)
                show Q_rm1 Z i c0 c1 c2 c3 c4 c5 c6 c7 h0 n0 _ T15.heap _
                rw [e15]
                exact ⟨by simp [own_pick, hc1_1, hc10_3, hc19_5, hc28_7, hc37_9, hc46_11, hc56_13], N0, rfl⟩
theorem d2_0 : decode prog_5_method_6_code 0 = .ok (.aload_n 0, 1) := by decide +kernel
theorem d2_1 : decode prog_5_method_6_code 1 = .ok (.getstatic 7, 3) := by decide +kernel
theorem d2_4 : decode prog_5_method_6_code 4 = .ok (.if_acmp .eq 17, 3) := by decide +kernel
theorem d2_7 : decode prog_5_method_6_code 7 = .ok (.aload_n 0, 1) := by decide +kernel
theorem d2_8 : decode prog_5_method_6_code 8 = .ok (.getstatic 10, 3) := by decide +kernel
theorem d2_11 : decode prog_5_method_6_code 11 = .ok (.if_acmp .eq 10, 3) := by decide +kernel
theorem d2_14 : decode prog_5_method_6_code 14 = .ok (.aload_n 0, 1) := by decide +kernel
theorem d2_15 : decode prog_5_method_6_code 15 = .ok (.getstatic 16, 3) := by decide +kernel
theorem d2_18 : decode prog_5_method_6_code 18 = .ok (.if_acmp .ne 7, 3) := by decide +kernel
theorem d2_21 : decode prog_5_method_6_code 21 = .ok (.iconst 1, 1) := by decide +kernel
theorem d2_22 : decode prog_5_method_6_code 22 = .ok (.goto 4, 3) := by decide +kernel
theorem d2_25 : decode prog_5_method_6_code 25 = .ok (.iconst 0, 1) := by decide +kernel
theorem d2_26 : decode prog_5_method_6_code 26 = .ok (.ireturn, 1) := by decide +kernel
theorem pn_2 : plainName "com/example/ship_shore_exchange/shipshoreexchange/model/MsiStatus" = true := by first | (simp [plainName, overriddenIn]; done) | decide +kernel
theorem ef_rm2 (m : MethodId) (a : Addr) : entryFrame m #[(.ref a)] 1 = mkF m 0 #[.val (.ref a)] [] := by first | (simp [entryFrame, mkF, argsToLocals, Value.category]; done) | rfl | (rcases ref_cases hrf with rfl | ⟨q, rfl⟩ <;> rfl)
def Q_rm2 (Z : State) (a : Addr) (c1 : Addr) (c2 : Addr) (c4 : Addr) (h0 : Heap) (n0 : Nat) (v : Option Value) (h : Heap) (L : List Loc) : Prop := v = some (.int (own_is a c1 c2 c4)) ∧ Fr n0 L ∧ h = h0
set_option maxRecDepth 65536 in
set_option maxHeartbeats 40000000 in
theorem rm2 (l : Launch) (Z : State) (a0 : Array Value) (hw : ∀ d ∈ tables_1, d.before a0 Z = true) (ws : List Jvm.Cond) (a : Addr) (c1 : Addr) (c2 : Addr) (c4 : Addr) (h0 : Heap) (n0 : Nat) (O0 : Old Z n0 h0) (S_c1 : Sta Z Z.heap "com/example/ship_shore_exchange/shipshoreexchange/model/MsiStatus" "SCHEDULED" "Lcom/example/ship_shore_exchange/shipshoreexchange/model/MsiStatus;" (.ref c1)) (S_c2 : Sta Z Z.heap "com/example/ship_shore_exchange/shipshoreexchange/model/MsiStatus" "ACTIVE" "Lcom/example/ship_shore_exchange/shipshoreexchange/model/MsiStatus;" (.ref c2)) (S_c4 : Sta Z Z.heap "com/example/ship_shore_exchange/shipshoreexchange/model/MsiStatus" "CANCELLING" "Lcom/example/ship_shore_exchange/shipshoreexchange/model/MsiStatus;" (.ref c4)) :
    MetFree l oM1 (head1 (Jvm.Cond.code oM1 prog_5_method_6_code 1 (some .boolean) :: ws) ({ frames := 0, cells := 0, slots := 0, locals := 0 } : Room)) (fun aq_ U => aq_ = #[(.ref a)] ∧ Z.Warmed39 U.vm ∧ U.heap = h0) (fun _ _ _ _ _ => True) (fun _ U o U' => ∃ v L, o = .returned v ∧ Q_rm2 Z a c1 c2 c4 h0 n0 v U'.heap L ∧ FrameEnd U o U' L ({ frames := 0, cells := 0, slots := 0, locals := 0 } : Room).cells ({ frames := 0, cells := 0, slots := 0, locals := 0 } : Room).slots) := by
  refine MetFree.of_bodySF (plainFor_of_name pn_2) hisR ?_
  intro p e s m args below meth c s₁ Bd hml0 hP hK
  obtain ⟨rfl, hZ, hh⟩ := hP
  have hx := Bd.exec
  have hby := Bd.bytes
  have hml : c.maxLocals = 1 := hml0
  have hown : s.vm.findClass "com/example/ship_shore_exchange/shipshoreexchange/model/MsiStatus" = some m.cls := findClass_of_methodNamed Bd.named
  have hnm := (name_of_methodNamed Bd.named Bd.method).1
  have X0 : Stand p l e ({ frames := 0, cells := 0, slots := 0, locals := 0 } : Room) s m #[(.ref a)] below meth c s₁ [] 0 0 := Stand.of_body Bd
  have e0 : s₁.heap = h0 := by rw [← hh, Bd.state]; rfl
  have N0 := Fr.nil n0
  show own_Ends p.tables e below (own_P s (Q_rm2 Z a c1 c2 c4 h0 n0) ({ frames := 0, cells := 0, slots := 0, locals := 0 } : Room).cells ({ frames := 0, cells := 0, slots := 0, locals := 0 } : Room).slots) _
  refine own_cast (ef_rm2 m a) ?_
  show own_Ends _ _ _ _ (s₁.setTop (mkF m 0 #[.val (.ref a)] []))
  refine own_to (fun _ kont => XS.aloadN X0.here hx rfl (hb hby d2_0) rfl rfl kont) ?_
  show own_Ends _ _ _ _ (s₁.setTop (mkF m 1 #[.val (.ref a)] [(.ref a)]))
  obtain ⟨T1, X1, e1, st1⟩ := getS2 X0 hx hZ hown (host := "") (Or.inl (ow12 hw)) Via.refl e0 (S_c1.ext O0.2) (g := (mkF m 1 #[.val (.ref a)] [(.ref a)])) rfl (hb hby d2_1)
  refine own_to st1 ?_
  show own_Ends _ _ _ _ (T1.setTop (mkF m 4 #[.val (.ref a)] [(.ref c1), (.ref a)]))
  by_cases hc4_2 : a = c1
  · -- pc 4
    refine own_to (fun _ kont => Jvm.RoadKit.acmp (g := (mkF m 4 #[.val (.ref a)] [(.ref c1), (.ref a)])) X1 hx rfl rfl rfl (pc0 := 4) (pc' := 21) (same := true) rfl (hb hby d2_4) rfl (decide_eq_true (congrArg Value.ref hc4_2)) (by decide) (by decide) kont) ?_
    show own_Ends _ _ _ _ (T1.setTop (mkF m 21 #[.val (.ref a)] []))
    refine own_to (fun _ kont => XS.iconst X1.here hx rfl (hb hby d2_21) kont) ?_
    show own_Ends _ _ _ _ (T1.setTop (mkF m 22 #[.val (.ref a)] [(.int 1)]))
    refine own_to (fun _ kont => XS.goto X1.here hx rfl (pc0 := 22) (pc' := 26) rfl (hb hby d2_22) (by decide) (by decide) kont) ?_
    show own_Ends _ _ _ _ (T1.setTop (mkF m 26 #[.val (.ref a)] [(.int 1)]))
    refine own_leave X1 (v := some (.int (1 : Int32))) (fun h => by rw [Bd.returns] at h; cases h) ?_ (by decide) (by decide) (fun fs hr => retN X1 hx (t := .boolean) Bd.returns (by simp) (hb hby d2_26) hr)
    show Q_rm2 Z a c1 c2 c4 h0 n0 _ T1.heap _
    rw [e1]
    exact ⟨by simp [own_is, *], N0, rfl⟩
  · -- pc 4
    refine own_to (fun _ kont => Jvm.RoadKit.acmp (g := (mkF m 4 #[.val (.ref a)] [(.ref c1), (.ref a)])) X1 hx rfl rfl rfl (pc0 := 4) (pc' := 7) (same := false) rfl (hb hby d2_4) rfl (decide_eq_false fun q => hc4_2 (Value.ref.inj q)) (by decide) (by decide) kont) ?_
    show own_Ends _ _ _ _ (T1.setTop (mkF m 7 #[.val (.ref a)] []))
    refine own_to (fun _ kont => XS.aloadN X1.here hx rfl (hb hby d2_7) rfl rfl kont) ?_
    show own_Ends _ _ _ _ (T1.setTop (mkF m 8 #[.val (.ref a)] [(.ref a)]))
    obtain ⟨T3, X3, e3, st3⟩ := getS2 X1 hx hZ hown (host := "") (Or.inl (ow14 hw)) Via.refl e1 (S_c2.ext O0.2) (g := (mkF m 8 #[.val (.ref a)] [(.ref a)])) rfl (hb hby d2_8)
    refine own_to st3 ?_
    show own_Ends _ _ _ _ (T3.setTop (mkF m 11 #[.val (.ref a)] [(.ref c2), (.ref a)]))
    by_cases hc11_4 : a = c2
    · -- pc 11
      refine own_to (fun _ kont => Jvm.RoadKit.acmp (g := (mkF m 11 #[.val (.ref a)] [(.ref c2), (.ref a)])) X3 hx rfl rfl rfl (pc0 := 11) (pc' := 21) (same := true) rfl (hb hby d2_11) rfl (decide_eq_true (congrArg Value.ref hc11_4)) (by decide) (by decide) kont) ?_
      show own_Ends _ _ _ _ (T3.setTop (mkF m 21 #[.val (.ref a)] []))
      refine own_to (fun _ kont => XS.iconst X3.here hx rfl (hb hby d2_21) kont) ?_
      show own_Ends _ _ _ _ (T3.setTop (mkF m 22 #[.val (.ref a)] [(.int 1)]))
      refine own_to (fun _ kont => XS.goto X3.here hx rfl (pc0 := 22) (pc' := 26) rfl (hb hby d2_22) (by decide) (by decide) kont) ?_
      show own_Ends _ _ _ _ (T3.setTop (mkF m 26 #[.val (.ref a)] [(.int 1)]))
      refine own_leave X3 (v := some (.int (1 : Int32))) (fun h => by rw [Bd.returns] at h; cases h) ?_ (by decide) (by decide) (fun fs hr => retN X3 hx (t := .boolean) Bd.returns (by simp) (hb hby d2_26) hr)
      show Q_rm2 Z a c1 c2 c4 h0 n0 _ T3.heap _
      rw [e3]
      exact ⟨by simp [own_is, *], N0, rfl⟩
    · -- pc 11
      refine own_to (fun _ kont => Jvm.RoadKit.acmp (g := (mkF m 11 #[.val (.ref a)] [(.ref c2), (.ref a)])) X3 hx rfl rfl rfl (pc0 := 11) (pc' := 14) (same := false) rfl (hb hby d2_11) rfl (decide_eq_false fun q => hc11_4 (Value.ref.inj q)) (by decide) (by decide) kont) ?_
      show own_Ends _ _ _ _ (T3.setTop (mkF m 14 #[.val (.ref a)] []))
      refine own_to (fun _ kont => XS.aloadN X3.here hx rfl (hb hby d2_14) rfl rfl kont) ?_
      show own_Ends _ _ _ _ (T3.setTop (mkF m 15 #[.val (.ref a)] [(.ref a)]))
      obtain ⟨T5, X5, e5, st5⟩ := getS2 X3 hx hZ hown (host := "") (Or.inl (ow16 hw)) Via.refl e3 (S_c4.ext O0.2) (g := (mkF m 15 #[.val (.ref a)] [(.ref a)])) rfl (hb hby d2_15)
      refine own_to st5 ?_
      show own_Ends _ _ _ _ (T5.setTop (mkF m 18 #[.val (.ref a)] [(.ref c4), (.ref a)]))
      by_cases hc18_6 : a = c4
      · -- pc 18
        refine own_to (fun _ kont => Jvm.RoadKit.acmp (g := (mkF m 18 #[.val (.ref a)] [(.ref c4), (.ref a)])) X5 hx rfl rfl rfl (pc0 := 18) (pc' := 21) (same := true) rfl (hb hby d2_18) rfl (decide_eq_true (congrArg Value.ref hc18_6)) (by decide) (by decide) kont) ?_
        show own_Ends _ _ _ _ (T5.setTop (mkF m 21 #[.val (.ref a)] []))
        refine own_to (fun _ kont => XS.iconst X5.here hx rfl (hb hby d2_21) kont) ?_
        show own_Ends _ _ _ _ (T5.setTop (mkF m 22 #[.val (.ref a)] [(.int 1)]))
        refine own_to (fun _ kont => XS.goto X5.here hx rfl (pc0 := 22) (pc' := 26) rfl (hb hby d2_22) (by decide) (by decide) kont) ?_
        show own_Ends _ _ _ _ (T5.setTop (mkF m 26 #[.val (.ref a)] [(.int 1)]))
        refine own_leave X5 (v := some (.int (1 : Int32))) (fun h => by rw [Bd.returns] at h; cases h) ?_ (by decide) (by decide) (fun fs hr => retN X5 hx (t := .boolean) Bd.returns (by simp) (hb hby d2_26) hr)
        show Q_rm2 Z a c1 c2 c4 h0 n0 _ T5.heap _
        rw [e5]
        exact ⟨by simp [own_is, *], N0, rfl⟩
      · -- pc 18
        refine own_to (fun _ kont => Jvm.RoadKit.acmp (g := (mkF m 18 #[.val (.ref a)] [(.ref c4), (.ref a)])) X5 hx rfl rfl rfl (pc0 := 18) (pc' := 25) (same := false) rfl (hb hby d2_18) rfl (decide_eq_false fun q => hc18_6 (Value.ref.inj q)) (by decide) (by decide) kont) ?_
        show own_Ends _ _ _ _ (T5.setTop (mkF m 25 #[.val (.ref a)] []))
        refine own_to (fun _ kont => XS.iconst X5.here hx rfl (hb hby d2_25) kont) ?_
        show own_Ends _ _ _ _ (T5.setTop (mkF m 26 #[.val (.ref a)] [(.int 0)]))
        refine own_leave X5 (v := some (.int (0 : Int32))) (fun h => by rw [Bd.returns] at h; cases h) ?_ (by decide) (by decide) (fun fs hr => retN X5 hx (t := .boolean) Bd.returns (by simp) (hb hby d2_26) hr)
        show Q_rm2 Z a c1 c2 c4 h0 n0 _ T5.heap _
        rw [e5]
        exact ⟨by simp [own_is, *], N0, rfl⟩
theorem pn_0 : plainName "com/example/ship_shore_exchange/shipshoreexchange/model/MsiStatusIsWithProviderPinLaw" = true := by first | (simp [plainName, overriddenIn]; done) | decide +kernel
theorem pd_0 : parseMethodDescriptor "(I)Lcom/example/ship_shore_exchange/shipshoreexchange/model/MsiStatus;" = some ⟨[.int], some (.object "com/example/ship_shore_exchange/shipshoreexchange/model/MsiStatus")⟩ := by decide +kernel
theorem pd_1 : parseMethodDescriptor "()Z" = some ⟨[], some .boolean⟩ := by decide +kernel
theorem ef_rm0 (m : MethodId) (z1 : Int32) : entryFrame m #[(.int z1)] maxLocals = mkF m 0 #[.val (.int z1), .unset, .unset, .unset, .unset, .unset, .unset] [] := by first | (simp [entryFrame, mkF, argsToLocals, Value.category, maxLocals]; done) | rfl | (rcases ref_cases hrf with rfl | ⟨q, rfl⟩ <;> rfl)
def Q_rm0 (Z : State) (z1 : Int32) (c0 : Addr) (c1 : Addr) (c2 : Addr) (c3 : Addr) (c4 : Addr) (c5 : Addr) (c6 : Addr) (c7 : Addr) (h0 : Heap) (n0 : Nat) (v : Option Value) (h : Heap) (L : List Loc) : Prop := v = some (.int 1) ∧ Fr n0 L
set_option maxRecDepth 65536 in
set_option maxHeartbeats 40000000 in
theorem rm0 (l : Launch) (Z : State) (a0 : Array Value) (hw : ∀ d ∈ tables_1, d.before a0 Z = true) (ws : List Jvm.Cond) (z1 : Int32) (c0 : Addr) (c1 : Addr) (c2 : Addr) (c3 : Addr) (c4 : Addr) (c5 : Addr) (c6 : Addr) (c7 : Addr) (h0 : Heap) (n0 : Nat) (O0 : Old Z n0 h0) (S_c0 : Sta Z Z.heap "com/example/ship_shore_exchange/shipshoreexchange/model/MsiStatus" "CREATED" "Lcom/example/ship_shore_exchange/shipshoreexchange/model/MsiStatus;" (.ref c0)) (S_c1 : Sta Z Z.heap "com/example/ship_shore_exchange/shipshoreexchange/model/MsiStatus" "SCHEDULED" "Lcom/example/ship_shore_exchange/shipshoreexchange/model/MsiStatus;" (.ref c1)) (S_c2 : Sta Z Z.heap "com/example/ship_shore_exchange/shipshoreexchange/model/MsiStatus" "ACTIVE" "Lcom/example/ship_shore_exchange/shipshoreexchange/model/MsiStatus;" (.ref c2)) (S_c3 : Sta Z Z.heap "com/example/ship_shore_exchange/shipshoreexchange/model/MsiStatus" "FINISHED" "Lcom/example/ship_shore_exchange/shipshoreexchange/model/MsiStatus;" (.ref c3)) (S_c4 : Sta Z Z.heap "com/example/ship_shore_exchange/shipshoreexchange/model/MsiStatus" "CANCELLING" "Lcom/example/ship_shore_exchange/shipshoreexchange/model/MsiStatus;" (.ref c4)) (S_c5 : Sta Z Z.heap "com/example/ship_shore_exchange/shipshoreexchange/model/MsiStatus" "CANCELLED" "Lcom/example/ship_shore_exchange/shipshoreexchange/model/MsiStatus;" (.ref c5)) (S_c6 : Sta Z Z.heap "com/example/ship_shore_exchange/shipshoreexchange/model/MsiStatus" "BROADCAST_ERROR" "Lcom/example/ship_shore_exchange/shipshoreexchange/model/MsiStatus;" (.ref c6)) (S_c7 : Sta Z Z.heap "com/example/ship_shore_exchange/shipshoreexchange/model/MsiStatus" "CANCEL_ERROR" "Lcom/example/ship_shore_exchange/shipshoreexchange/model/MsiStatus;" (.ref c7)) (E_c0 : Exa Z Z.heap c0 "com/example/ship_shore_exchange/shipshoreexchange/model/MsiStatus") (E_c1 : Exa Z Z.heap c1 "com/example/ship_shore_exchange/shipshoreexchange/model/MsiStatus") (E_c2 : Exa Z Z.heap c2 "com/example/ship_shore_exchange/shipshoreexchange/model/MsiStatus") (E_c3 : Exa Z Z.heap c3 "com/example/ship_shore_exchange/shipshoreexchange/model/MsiStatus") (E_c4 : Exa Z Z.heap c4 "com/example/ship_shore_exchange/shipshoreexchange/model/MsiStatus") (E_c5 : Exa Z Z.heap c5 "com/example/ship_shore_exchange/shipshoreexchange/model/MsiStatus") (E_c6 : Exa Z Z.heap c6 "com/example/ship_shore_exchange/shipshoreexchange/model/MsiStatus") (E_c7 : Exa Z Z.heap c7 "com/example/ship_shore_exchange/shipshoreexchange/model/MsiStatus") (F_c0 : Fld Z Z.heap c0 "java/lang/Enum" "ordinal" "I" (.int (0 : Int32))) (F_c1 : Fld Z Z.heap c1 "java/lang/Enum" "ordinal" "I" (.int (1 : Int32))) (F_c2 : Fld Z Z.heap c2 "java/lang/Enum" "ordinal" "I" (.int (2 : Int32))) (F_c3 : Fld Z Z.heap c3 "java/lang/Enum" "ordinal" "I" (.int (3 : Int32))) (F_c4 : Fld Z Z.heap c4 "java/lang/Enum" "ordinal" "I" (.int (4 : Int32))) (F_c5 : Fld Z Z.heap c5 "java/lang/Enum" "ordinal" "I" (.int (5 : Int32))) (F_c6 : Fld Z Z.heap c6 "java/lang/Enum" "ordinal" "I" (.int (6 : Int32))) (F_c7 : Fld Z Z.heap c7 "java/lang/Enum" "ordinal" "I" (.int (7 : Int32))) :
    MetFree l x (head1 (Jvm.Cond.code x code maxLocals ret :: ws) room_1) (fun aq_ U => aq_ = #[(.int z1)] ∧ Z.Warmed39 U.vm ∧ U.heap = h0) (fun _ _ _ _ _ => True) (fun _ U o U' => ∃ v L, o = .returned v ∧ Q_rm0 Z z1 c0 c1 c2 c3 c4 c5 c6 c7 h0 n0 v U'.heap L ∧ FrameEnd U o U' L 0 0) := by
  refine MetFree.of_bodySF (plainFor_of_name pn_0) hisR ?_
  intro p e s m args below meth c s₁ Bd hml0 hP hK
  obtain ⟨rfl, hZ, hh⟩ := hP
  have hx := Bd.exec
  have hby := Bd.bytes
  have hml : c.maxLocals = 7 := hml0
  have hown : s.vm.findClass "com/example/ship_shore_exchange/shipshoreexchange/model/MsiStatusIsWithProviderPinLaw" = some m.cls := findClass_of_methodNamed Bd.named
  have hnm := (name_of_methodNamed Bd.named Bd.method).1
  have X0 : Stand p l e room_1 s m #[(.int z1)] below meth c s₁ [] 0 0 := Stand.of_body Bd
  have e0 : s₁.heap = h0 := by rw [← hh, Bd.state]; rfl
  have N0 := Fr.nil n0
  show own_Ends p.tables e below (own_P s (Q_rm0 Z z1 c0 c1 c2 c3 c4 c5 c6 c7 h0 n0) 0 0) _
  refine own_cast (ef_rm0 m z1) ?_
  show own_Ends _ _ _ _ (s₁.setTop (mkF m 0 #[.val (.int z1), .unset, .unset, .unset, .unset, .unset, .unset] []))
  refine own_to (fun _ kont => XS.iloadN X0.here hx rfl (hb hby at_0) rfl kont) ?_
  show own_Ends _ _ _ _ (s₁.setTop (mkF m 1 #[.val (.int z1), .unset, .unset, .unset, .unset, .unset, .unset] [(.int z1)]))
  refine own_to (fun _ kont => XS.bipush X0.here hx rfl (hb hby at_1) kont) ?_
  show own_Ends _ _ _ _ (s₁.setTop (mkF m 3 #[.val (.int z1), .unset, .unset, .unset, .unset, .unset, .unset] [(.int 7), (.int z1)]))
  refine own_to (fun _ kont => XS.iand X0.here hx rfl (hb hby at_3) rfl kont) ?_
  show own_Ends _ _ _ _ (s₁.setTop (mkF m 4 #[.val (.int z1), .unset, .unset, .unset, .unset, .unset, .unset] [(.int (z1 &&& 7))]))
  refine own_to (fun _ kont => XS.istoreN X0.here hx rfl (hb hby at_4) rfl (l' := #[.val (.int z1), .val (.int (z1 &&& (7 : Int32))), .unset, .unset, .unset, .unset, .unset]) rfl kont) ?_
  show own_Ends _ _ _ _ (s₁.setTop (mkF m 5 #[.val (.int z1), .val (.int (z1 &&& 7)), .unset, .unset, .unset, .unset, .unset] []))
  generalize hi : (z1 &&& (7 : Int32)) = i
  rcases (hi ▸ own_and7 z1 : i = 0 ∨ i = 1 ∨ i = 2 ∨ i = 3 ∨ i = 4 ∨ i = 5 ∨ i = 6 ∨ i = 7) with rfl | rfl | rfl | rfl | rfl | rfl | rfl | rfl
  · skip
    show own_Ends _ _ _ _ (s₁.setTop (mkF m 5 #[.val (.int z1), .val (.int 0), .unset, .unset, .unset, .unset, .unset] []))
    refine own_to (fun _ kont => XS.iloadN X0.here hx rfl (hb hby at_5) rfl kont) ?_
    show own_Ends _ _ _ _ (s₁.setTop (mkF m 6 #[.val (.int z1), .val (.int 0), .unset, .unset, .unset, .unset, .unset] [(.int 0)]))
    obtain ⟨_, _, ⟨T1, L1, k1, n1⟩, -, X1, ⟨Lc1, hQ1, l1, y1, z1⟩, st1⟩ := Jvm.LawKit.callS X0 hx (y := oM0) hown (mvT hZ (ow0 hw)) (mvT hZ (ow1 hw)) (mvT hZ (ow2 hw)) (mvT hZ (ow3 hw)) (by decide) (backOf (W := 0) (rm1 l Z a0 hw [] (0 : Int32) c0 c1 c2 c3 c4 c5 c6 c7 h0 n0 O0 S_c0 S_c1 S_c2 S_c3 S_c4 S_c5 S_c6 S_c7) hZ (ow3 hw) (ow2 hw) (by decide) (by decide)) (g := (mkF m 6 #[.val (.int z1), .val (.int (0 : Int32)), .unset, .unset, .unset, .unset, .unset] [(.int (0 : Int32))])) rfl (by rw [hml]; rfl) (argsL := [(.int (0 : Int32))]) (rest := []) (lenOf pd_0 rfl) rfl (by show 2 * 0 + _ ≤ _; exact Nat.le_of_eq rfl) (hb hby at_6) (fun _ _ => ⟨rfl, e0, (own_le rfl), (own_le rfl)⟩)
    dsimp only [Pt.U, Pt.locs, Pt.cells, Pt.slots] at X1 l1 y1 z1 st1 hQ1
    subst l1 y1 z1
    obtain ⟨hv1, N1q, E1⟩ := hQ1
    rw [own_pick_0] at hv1
    subst hv1
    have N1 := Fr.app N0 N1q
    refine own_to st1 ?_
    show own_Ends _ _ _ _ (T1.setTop (mkF m 9 #[.val (.int z1), .val (.int 0), .unset, .unset, .unset, .unset, .unset] [(.ref c0)]))
    refine own_to (fun _ kont => XS.astoreN X1.here hx rfl (hb hby at_9) rfl rfl (l' := #[.val (.int z1), .val (.int (0 : Int32)), .val (.ref c0), .unset, .unset, .unset, .unset]) rfl kont) ?_
    show own_Ends _ _ _ _ (T1.setTop (mkF m 10 #[.val (.int z1), .val (.int 0), .val (.ref c0), .unset, .unset, .unset, .unset] []))
    refine own_to (fun _ kont => XS.iloadN X1.here hx rfl (hb hby at_10) rfl kont) ?_
    show own_Ends _ _ _ _ (T1.setTop (mkF m 11 #[.val (.int z1), .val (.int 0), .val (.ref c0), .unset, .unset, .unset, .unset] [(.int 0)]))
    refine own_to (fun _ kont => XS.ifYes X1.here hx rfl (pc0 := 11) (pc' := 18) rfl (hb hby at_11) rfl ((if0 _ _).trans (teq (by decide)).1) (by decide) (by decide) kont) ?_
    show own_Ends _ _ _ _ (T1.setTop (mkF m 18 #[.val (.int z1), .val (.int 0), .val (.ref c0), .unset, .unset, .unset, .unset] []))
    refine own_to (fun _ kont => XS.iconst X1.here hx rfl (hb hby at_18) kont) ?_
    show own_Ends _ _ _ _ (T1.setTop (mkF m 19 #[.val (.int z1), .val (.int 0), .val (.ref c0), .unset, .unset, .unset, .unset] [(.int 0)]))
    refine own_to (fun _ kont => XS.istoreN X1.here hx rfl (hb hby at_19) rfl (l' := #[.val (.int z1), .val (.int (0 : Int32)), .val (.ref c0), .val (.int (0 : Int32)), .unset, .unset, .unset]) rfl kont) ?_
    show own_Ends _ _ _ _ (T1.setTop (mkF m 20 #[.val (.int z1), .val (.int 0), .val (.ref c0), .val (.int 0), .unset, .unset, .unset] []))
    refine own_to (fun _ kont => XS.iloadN X1.here hx rfl (hb hby at_20) rfl kont) ?_
    show own_Ends _ _ _ _ (T1.setTop (mkF m 21 #[.val (.int z1), .val (.int 0), .val (.ref c0), .val (.int 0), .unset, .unset, .unset] [(.int 0)]))
    refine own_to (fun _ kont => XS.iconst X1.here hx rfl (hb hby at_21) kont) ?_
    show own_Ends _ _ _ _ (T1.setTop (mkF m 22 #[.val (.int z1), .val (.int 0), .val (.ref c0), .val (.int 0), .unset, .unset, .unset] [(.int 3), (.int 0)]))
    refine own_to (fun _ kont => XS.icmpNo X1.here hx rfl (hb hby at_22) rfl (feq (by decide)).1 kont) ?_
    show own_Ends _ _ _ _ (T1.setTop (mkF m 25 #[.val (.int z1), .val (.int 0), .val (.ref c0), .val (.int 0), .unset, .unset, .unset] []))
    refine own_to (fun _ kont => XS.iloadN X1.here hx rfl (hb hby at_25) rfl kont) ?_
    show own_Ends _ _ _ _ (T1.setTop (mkF m 26 #[.val (.int z1), .val (.int 0), .val (.ref c0), .val (.int 0), .unset, .unset, .unset] [(.int 0)]))
    refine own_to (fun _ kont => XS.iconst X1.here hx rfl (hb hby at_26) kont) ?_
    show own_Ends _ _ _ _ (T1.setTop (mkF m 27 #[.val (.int z1), .val (.int 0), .val (.ref c0), .val (.int 0), .unset, .unset, .unset] [(.int 5), (.int 0)]))
    refine own_to (fun _ kont => XS.icmpYes X1.here hx rfl (pc0 := 27) (pc' := 34) rfl (hb hby at_27) rfl (feq (by decide)).2 (by decide) (by decide) kont) ?_
    show own_Ends _ _ _ _ (T1.setTop (mkF m 34 #[.val (.int z1), .val (.int 0), .val (.ref c0), .val (.int 0), .unset, .unset, .unset] []))
    refine own_to (fun _ kont => XS.iconst X1.here hx rfl (hb hby at_34) kont) ?_
    show own_Ends _ _ _ _ (T1.setTop (mkF m 35 #[.val (.int z1), .val (.int 0), .val (.ref c0), .val (.int 0), .unset, .unset, .unset] [(.int 0)]))
    refine own_to (fun _ kont => XS.istore X1.here hx rfl (hb hby at_35) rfl (l' := #[.val (.int z1), .val (.int (0 : Int32)), .val (.ref c0), .val (.int (0 : Int32)), .val (.int (0 : Int32)), .unset, .unset]) rfl kont) ?_
    show own_Ends _ _ _ _ (T1.setTop (mkF m 37 #[.val (.int z1), .val (.int 0), .val (.ref c0), .val (.int 0), .val (.int 0), .unset, .unset] []))
    refine own_to (fun _ kont => XS.iloadN X1.here hx rfl (hb hby at_37) rfl kont) ?_
    show own_Ends _ _ _ _ (T1.setTop (mkF m 38 #[.val (.int z1), .val (.int 0), .val (.ref c0), .val (.int 0), .val (.int 0), .unset, .unset] [(.int 0)]))
    refine own_to (fun _ kont => XS.bipush X1.here hx rfl (hb hby at_38) kont) ?_
    show own_Ends _ _ _ _ (T1.setTop (mkF m 40 #[.val (.int z1), .val (.int 0), .val (.ref c0), .val (.int 0), .val (.int 0), .unset, .unset] [(.int 6), (.int 0)]))
    refine own_to (fun _ kont => XS.icmpNo X1.here hx rfl (hb hby at_40) rfl (feq (by decide)).1 kont) ?_
    show own_Ends _ _ _ _ (T1.setTop (mkF m 43 #[.val (.int z1), .val (.int 0), .val (.ref c0), .val (.int 0), .val (.int 0), .unset, .unset] []))
    refine own_to (fun _ kont => XS.iloadN X1.here hx rfl (hb hby at_43) rfl kont) ?_
    show own_Ends _ _ _ _ (T1.setTop (mkF m 44 #[.val (.int z1), .val (.int 0), .val (.ref c0), .val (.int 0), .val (.int 0), .unset, .unset] [(.int 0)]))
    refine own_to (fun _ kont => XS.bipush X1.here hx rfl (hb hby at_44) kont) ?_
    show own_Ends _ _ _ _ (T1.setTop (mkF m 46 #[.val (.int z1), .val (.int 0), .val (.ref c0), .val (.int 0), .val (.int 0), .unset, .unset] [(.int 7), (.int 0)]))
    refine own_to (fun _ kont => XS.icmpYes X1.here hx rfl (pc0 := 46) (pc' := 53) rfl (hb hby at_46) rfl (feq (by decide)).2 (by decide) (by decide) kont) ?_
    show own_Ends _ _ _ _ (T1.setTop (mkF m 53 #[.val (.int z1), .val (.int 0), .val (.ref c0), .val (.int 0), .val (.int 0), .unset, .unset] []))
    refine own_to (fun _ kont => XS.iconst X1.here hx rfl (hb hby at_53) kont) ?_
    show own_Ends _ _ _ _ (T1.setTop (mkF m 54 #[.val (.int z1), .val (.int 0), .val (.ref c0), .val (.int 0), .val (.int 0), .unset, .unset] [(.int 0)]))
    refine own_to (fun _ kont => XS.istore X1.here hx rfl (hb hby at_54) rfl (l' := #[.val (.int z1), .val (.int (0 : Int32)), .val (.ref c0), .val (.int (0 : Int32)), .val (.int (0 : Int32)), .val (.int (0 : Int32)), .unset]) rfl kont) ?_
    show own_Ends _ _ _ _ (T1.setTop (mkF m 56 #[.val (.int z1), .val (.int 0), .val (.ref c0), .val (.int 0), .val (.int 0), .val (.int 0), .unset] []))
    refine own_to (fun _ kont => XS.iloadN X1.here hx rfl (hb hby at_56) rfl kont) ?_
    show own_Ends _ _ _ _ (T1.setTop (mkF m 57 #[.val (.int z1), .val (.int 0), .val (.ref c0), .val (.int 0), .val (.int 0), .val (.int 0), .unset] [(.int 0)]))
    refine own_to (fun _ kont => XS.ifYes X1.here hx rfl (pc0 := 57) (pc' := 74) rfl (hb hby at_57) rfl ((if0 _ _).trans (teq (by decide)).1) (by decide) (by decide) kont) ?_
    show own_Ends _ _ _ _ (T1.setTop (mkF m 74 #[.val (.int z1), .val (.int 0), .val (.ref c0), .val (.int 0), .val (.int 0), .val (.int 0), .unset] []))
    refine own_to (fun _ kont => XS.iconst X1.here hx rfl (hb hby at_74) kont) ?_
    show own_Ends _ _ _ _ (T1.setTop (mkF m 75 #[.val (.int z1), .val (.int 0), .val (.ref c0), .val (.int 0), .val (.int 0), .val (.int 0), .unset] [(.int 0)]))
    refine own_to (fun _ kont => XS.istore X1.here hx rfl (hb hby at_75) rfl (l' := #[.val (.int z1), .val (.int (0 : Int32)), .val (.ref c0), .val (.int (0 : Int32)), .val (.int (0 : Int32)), .val (.int (0 : Int32)), .val (.int (0 : Int32))]) rfl kont) ?_
    show own_Ends _ _ _ _ (T1.setTop (mkF m 77 #[.val (.int z1), .val (.int 0), .val (.ref c0), .val (.int 0), .val (.int 0), .val (.int 0), .val (.int 0)] []))
    refine own_to (fun _ kont => XS.aloadN X1.here hx rfl (hb hby at_77) rfl rfl kont) ?_
    show own_Ends _ _ _ _ (T1.setTop (mkF m 78 #[.val (.int z1), .val (.int 0), .val (.ref c0), .val (.int 0), .val (.int 0), .val (.int 0), .val (.int 0)] [(.ref c0)]))
    obtain ⟨cq2, kq2, q2a, q2b, q2c⟩ := isOf hZ E1 (E_c0.ext O0.2)
    obtain ⟨_, _, ⟨T2, L2, k2, n2⟩, -, X2, ⟨Lc2, hQ2, l2, y2, z2⟩, st2⟩ := X1.virtualBack hx (y := oM1) (z := oM1) hown (mvT hZ (ow7 hw)) (mvT hZ (ow8 hw)) (notFace_of_selects (args := #[]) (mvT hZ (ow10 hw))) (mvT hZ (ow10 hw)) (mvT hZ (ow9 hw)) (by decide) (backOf (W := 0) (rm2 l Z a0 hw [] c0 c1 c2 c4 h0 n0 O0 S_c1 S_c2 S_c4) hZ (ow11 hw) (ow5 hw) (by decide) (by decide)) q2a q2c (g := (mkF m 78 #[.val (.int z1), .val (.int (0 : Int32)), .val (.ref c0), .val (.int (0 : Int32)), .val (.int (0 : Int32)), .val (.int (0 : Int32)), .val (.int (0 : Int32))] [(.ref c0)])) rfl (by rw [hml]; rfl) (Steps.refl _) (argsL := []) (rest := []) (lenOf pd_1 rfl) rfl (by show 2 * 0 + _ ≤ _; exact Nat.le_of_eq rfl) (hb hby at_78) (fun _ _ => ⟨rfl, E1, (own_le rfl), (own_le rfl)⟩)
    dsimp only [Pt.U, Pt.locs, Pt.cells, Pt.slots] at X2 l2 y2 z2 st2 hQ2
    subst l2 y2 z2
    obtain ⟨hv2, N2q, E2⟩ := hQ2
    rw [own_is_no (Fld.ne F_c0 F_c1 (own_intne (by decide))) (Fld.ne F_c0 F_c2 (own_intne (by decide))) (Fld.ne F_c0 F_c4 (own_intne (by decide)))] at hv2
    subst hv2
    have N2 := Fr.app N1 N2q
    refine own_tr st2 ?_
    show own_Ends _ _ _ _ (T2.setTop (mkF m 81 #[.val (.int z1), .val (.int 0), .val (.ref c0), .val (.int 0), .val (.int 0), .val (.int 0), .val (.int 0)] [(.int 0)]))
    refine own_to (fun _ kont => XS.iload X2.here hx rfl (hb hby at_81) rfl kont) ?_
    show own_Ends _ _ _ _ (T2.setTop (mkF m 83 #[.val (.int z1), .val (.int 0), .val (.ref c0), .val (.int 0), .val (.int 0), .val (.int 0), .val (.int 0)] [(.int 0), (.int 0)]))
    refine own_to (fun _ kont => XS.icmpNo X2.here hx rfl (hb hby at_83) rfl (teq (by decide)).2 kont) ?_
    show own_Ends _ _ _ _ (T2.setTop (mkF m 86 #[.val (.int z1), .val (.int 0), .val (.ref c0), .val (.int 0), .val (.int 0), .val (.int 0), .val (.int 0)] []))
    refine own_to (fun _ kont => XS.iconst X2.here hx rfl (hb hby at_86) kont) ?_
    show own_Ends _ _ _ _ (T2.setTop (mkF m 87 #[.val (.int z1), .val (.int 0), .val (.ref c0), .val (.int 0), .val (.int 0), .val (.int 0), .val (.int 0)] [(.int 1)]))
    refine own_to (fun _ kont => XS.goto X2.here hx rfl (pc0 := 87) (pc' := 91) rfl (hb hby at_87) (by decide) (by decide) kont) ?_
    show own_Ends _ _ _ _ (T2.setTop (mkF m 91 #[.val (.int z1), .val (.int 0), .val (.ref c0), .val (.int 0), .val (.int 0), .val (.int 0), .val (.int 0)] [(.int 1)]))
    refine own_leave X2 (v := some (.int (1 : Int32))) (fun h => by rw [Bd.returns] at h; cases h) ?_ (by decide) (by decide) (fun fs hr => retN X2 hx (t := .boolean) Bd.returns (by simp) (hb hby at_91) hr)
    show Q_rm0 Z z1 c0 c1 c2 c3 c4 c5 c6 c7 h0 n0 _ T2.heap _
    rw [E2]
    exact ⟨rfl, N2⟩
  · skip
    show own_Ends _ _ _ _ (s₁.setTop (mkF m 5 #[.val (.int z1), .val (.int 1), .unset, .unset, .unset, .unset, .unset] []))
    refine own_to (fun _ kont => XS.iloadN X0.here hx rfl (hb hby at_5) rfl kont) ?_
    show own_Ends _ _ _ _ (s₁.setTop (mkF m 6 #[.val (.int z1), .val (.int 1), .unset, .unset, .unset, .unset, .unset] [(.int 1)]))
    obtain ⟨_, _, ⟨T3, L3, k3, n3⟩, -, X3, ⟨Lc3, hQ3, l3, y3, z3⟩, st3⟩ := Jvm.LawKit.callS X0 hx (y := oM0) hown (mvT hZ (ow0 hw)) (mvT hZ (ow1 hw)) (mvT hZ (ow2 hw)) (mvT hZ (ow3 hw)) (by decide) (backOf (W := 0) (rm1 l Z a0 hw [] (1 : Int32) c0 c1 c2 c3 c4 c5 c6 c7 h0 n0 O0 S_c0 S_c1 S_c2 S_c3 S_c4 S_c5 S_c6 S_c7) hZ (ow3 hw) (ow2 hw) (by decide) (by decide)) (g := (mkF m 6 #[.val (.int z1), .val (.int (1 : Int32)), .unset, .unset, .unset, .unset, .unset] [(.int (1 : Int32))])) rfl (by rw [hml]; rfl) (argsL := [(.int (1 : Int32))]) (rest := []) (lenOf pd_0 rfl) rfl (by show 2 * 0 + _ ≤ _; exact Nat.le_of_eq rfl) (hb hby at_6) (fun _ _ => ⟨rfl, e0, (own_le rfl), (own_le rfl)⟩)
    dsimp only [Pt.U, Pt.locs, Pt.cells, Pt.slots] at X3 l3 y3 z3 st3 hQ3
    subst l3 y3 z3
    obtain ⟨hv3, N3q, E3⟩ := hQ3
    rw [own_pick_1] at hv3
    subst hv3
    have N3 := Fr.app N0 N3q
    refine own_to st3 ?_
    show own_Ends _ _ _ _ (T3.setTop (mkF m 9 #[.val (.int z1), .val (.int 1), .unset, .unset, .unset, .unset, .unset] [(.ref c1)]))
    refine own_to (fun _ kont => XS.astoreN X3.here hx rfl (hb hby at_9) rfl rfl (l' := #[.val (.int z1), .val (.int (1 : Int32)), .val (.ref c1), .unset, .unset, .unset, .unset]) rfl kont) ?_
    show own_Ends _ _ _ _ (T3.setTop (mkF m 10 #[.val (.int z1), .val (.int 1), .val (.ref c1), .unset, .unset, .unset, .unset] []))
    refine own_to (fun _ kont => XS.iloadN X3.here hx rfl (hb hby at_10) rfl kont) ?_
    show own_Ends _ _ _ _ (T3.setTop (mkF m 11 #[.val (.int z1), .val (.int 1), .val (.ref c1), .unset, .unset, .unset, .unset] [(.int 1)]))
    refine own_to (fun _ kont => XS.ifNo X3.here hx rfl (hb hby at_11) rfl ((if0 _ _).trans (feq (by decide)).1) kont) ?_
    show own_Ends _ _ _ _ (T3.setTop (mkF m 14 #[.val (.int z1), .val (.int 1), .val (.ref c1), .unset, .unset, .unset, .unset] []))
    refine own_to (fun _ kont => XS.iconst X3.here hx rfl (hb hby at_14) kont) ?_
    show own_Ends _ _ _ _ (T3.setTop (mkF m 15 #[.val (.int z1), .val (.int 1), .val (.ref c1), .unset, .unset, .unset, .unset] [(.int 1)]))
    refine own_to (fun _ kont => XS.goto X3.here hx rfl (pc0 := 15) (pc' := 19) rfl (hb hby at_15) (by decide) (by decide) kont) ?_
    show own_Ends _ _ _ _ (T3.setTop (mkF m 19 #[.val (.int z1), .val (.int 1), .val (.ref c1), .unset, .unset, .unset, .unset] [(.int 1)]))
    refine own_to (fun _ kont => XS.istoreN X3.here hx rfl (hb hby at_19) rfl (l' := #[.val (.int z1), .val (.int (1 : Int32)), .val (.ref c1), .val (.int (1 : Int32)), .unset, .unset, .unset]) rfl kont) ?_
    show own_Ends _ _ _ _ (T3.setTop (mkF m 20 #[.val (.int z1), .val (.int 1), .val (.ref c1), .val (.int 1), .unset, .unset, .unset] []))
    refine own_to (fun _ kont => XS.iloadN X3.here hx rfl (hb hby at_20) rfl kont) ?_
    show own_Ends _ _ _ _ (T3.setTop (mkF m 21 #[.val (.int z1), .val (.int 1), .val (.ref c1), .val (.int 1), .unset, .unset, .unset] [(.int 1)]))
    refine own_to (fun _ kont => XS.iconst X3.here hx rfl (hb hby at_21) kont) ?_
    show own_Ends _ _ _ _ (T3.setTop (mkF m 22 #[.val (.int z1), .val (.int 1), .val (.ref c1), .val (.int 1), .unset, .unset, .unset] [(.int 3), (.int 1)]))
    refine own_to (fun _ kont => XS.icmpNo X3.here hx rfl (hb hby at_22) rfl (feq (by decide)).1 kont) ?_
    show own_Ends _ _ _ _ (T3.setTop (mkF m 25 #[.val (.int z1), .val (.int 1), .val (.ref c1), .val (.int 1), .unset, .unset, .unset] []))
    refine own_to (fun _ kont => XS.iloadN X3.here hx rfl (hb hby at_25) rfl kont) ?_
    show own_Ends _ _ _ _ (T3.setTop (mkF m 26 #[.val (.int z1), .val (.int 1), .val (.ref c1), .val (.int 1), .unset, .unset, .unset] [(.int 1)]))
    refine own_to (fun _ kont => XS.iconst X3.here hx rfl (hb hby at_26) kont) ?_
    show own_Ends _ _ _ _ (T3.setTop (mkF m 27 #[.val (.int z1), .val (.int 1), .val (.ref c1), .val (.int 1), .unset, .unset, .unset] [(.int 5), (.int 1)]))
    refine own_to (fun _ kont => XS.icmpYes X3.here hx rfl (pc0 := 27) (pc' := 34) rfl (hb hby at_27) rfl (feq (by decide)).2 (by decide) (by decide) kont) ?_
    show own_Ends _ _ _ _ (T3.setTop (mkF m 34 #[.val (.int z1), .val (.int 1), .val (.ref c1), .val (.int 1), .unset, .unset, .unset] []))
    refine own_to (fun _ kont => XS.iconst X3.here hx rfl (hb hby at_34) kont) ?_
    show own_Ends _ _ _ _ (T3.setTop (mkF m 35 #[.val (.int z1), .val (.int 1), .val (.ref c1), .val (.int 1), .unset, .unset, .unset] [(.int 0)]))
    refine own_to (fun _ kont => XS.istore X3.here hx rfl (hb hby at_35) rfl (l' := #[.val (.int z1), .val (.int (1 : Int32)), .val (.ref c1), .val (.int (1 : Int32)), .val (.int (0 : Int32)), .unset, .unset]) rfl kont) ?_
    show own_Ends _ _ _ _ (T3.setTop (mkF m 37 #[.val (.int z1), .val (.int 1), .val (.ref c1), .val (.int 1), .val (.int 0), .unset, .unset] []))
    refine own_to (fun _ kont => XS.iloadN X3.here hx rfl (hb hby at_37) rfl kont) ?_
    show own_Ends _ _ _ _ (T3.setTop (mkF m 38 #[.val (.int z1), .val (.int 1), .val (.ref c1), .val (.int 1), .val (.int 0), .unset, .unset] [(.int 1)]))
    refine own_to (fun _ kont => XS.bipush X3.here hx rfl (hb hby at_38) kont) ?_
    show own_Ends _ _ _ _ (T3.setTop (mkF m 40 #[.val (.int z1), .val (.int 1), .val (.ref c1), .val (.int 1), .val (.int 0), .unset, .unset] [(.int 6), (.int 1)]))
    refine own_to (fun _ kont => XS.icmpNo X3.here hx rfl (hb hby at_40) rfl (feq (by decide)).1 kont) ?_
    show own_Ends _ _ _ _ (T3.setTop (mkF m 43 #[.val (.int z1), .val (.int 1), .val (.ref c1), .val (.int 1), .val (.int 0), .unset, .unset] []))
    refine own_to (fun _ kont => XS.iloadN X3.here hx rfl (hb hby at_43) rfl kont) ?_
    show own_Ends _ _ _ _ (T3.setTop (mkF m 44 #[.val (.int z1), .val (.int 1), .val (.ref c1), .val (.int 1), .val (.int 0), .unset, .unset] [(.int 1)]))
    refine own_to (fun _ kont => XS.bipush X3.here hx rfl (hb hby at_44) kont) ?_
    show own_Ends _ _ _ _ (T3.setTop (mkF m 46 #[.val (.int z1), .val (.int 1), .val (.ref c1), .val (.int 1), .val (.int 0), .unset, .unset] [(.int 7), (.int 1)]))
    refine own_to (fun _ kont => XS.icmpYes X3.here hx rfl (pc0 := 46) (pc' := 53) rfl (hb hby at_46) rfl (feq (by decide)).2 (by decide) (by decide) kont) ?_
    show own_Ends _ _ _ _ (T3.setTop (mkF m 53 #[.val (.int z1), .val (.int 1), .val (.ref c1), .val (.int 1), .val (.int 0), .unset, .unset] []))
    refine own_to (fun _ kont => XS.iconst X3.here hx rfl (hb hby at_53) kont) ?_
    show own_Ends _ _ _ _ (T3.setTop (mkF m 54 #[.val (.int z1), .val (.int 1), .val (.ref c1), .val (.int 1), .val (.int 0), .unset, .unset] [(.int 0)]))
    refine own_to (fun _ kont => XS.istore X3.here hx rfl (hb hby at_54) rfl (l' := #[.val (.int z1), .val (.int (1 : Int32)), .val (.ref c1), .val (.int (1 : Int32)), .val (.int (0 : Int32)), .val (.int (0 : Int32)), .unset]) rfl kont) ?_
    show own_Ends _ _ _ _ (T3.setTop (mkF m 56 #[.val (.int z1), .val (.int 1), .val (.ref c1), .val (.int 1), .val (.int 0), .val (.int 0), .unset] []))
    refine own_to (fun _ kont => XS.iloadN X3.here hx rfl (hb hby at_56) rfl kont) ?_
    show own_Ends _ _ _ _ (T3.setTop (mkF m 57 #[.val (.int z1), .val (.int 1), .val (.ref c1), .val (.int 1), .val (.int 0), .val (.int 0), .unset] [(.int 1)]))
    refine own_to (fun _ kont => XS.ifNo X3.here hx rfl (hb hby at_57) rfl ((if0 _ _).trans (feq (by decide)).1) kont) ?_
    show own_Ends _ _ _ _ (T3.setTop (mkF m 60 #[.val (.int z1), .val (.int 1), .val (.ref c1), .val (.int 1), .val (.int 0), .val (.int 0), .unset] []))
    refine own_to (fun _ kont => XS.iload X3.here hx rfl (hb hby at_60) rfl kont) ?_
    show own_Ends _ _ _ _ (T3.setTop (mkF m 62 #[.val (.int z1), .val (.int 1), .val (.ref c1), .val (.int 1), .val (.int 0), .val (.int 0), .unset] [(.int 0)]))
    refine own_to (fun _ kont => XS.ifNo X3.here hx rfl (hb hby at_62) rfl ((if0 _ _).trans (teq (by decide)).2) kont) ?_
    show own_Ends _ _ _ _ (T3.setTop (mkF m 65 #[.val (.int z1), .val (.int 1), .val (.ref c1), .val (.int 1), .val (.int 0), .val (.int 0), .unset] []))
    refine own_to (fun _ kont => XS.iload X3.here hx rfl (hb hby at_65) rfl kont) ?_
    show own_Ends _ _ _ _ (T3.setTop (mkF m 67 #[.val (.int z1), .val (.int 1), .val (.ref c1), .val (.int 1), .val (.int 0), .val (.int 0), .unset] [(.int 0)]))
    refine own_to (fun _ kont => XS.ifNo X3.here hx rfl (hb hby at_67) rfl ((if0 _ _).trans (teq (by decide)).2) kont) ?_
    show own_Ends _ _ _ _ (T3.setTop (mkF m 70 #[.val (.int z1), .val (.int 1), .val (.ref c1), .val (.int 1), .val (.int 0), .val (.int 0), .unset] []))
    refine own_to (fun _ kont => XS.iconst X3.here hx rfl (hb hby at_70) kont) ?_
    show own_Ends _ _ _ _ (T3.setTop (mkF m 71 #[.val (.int z1), .val (.int 1), .val (.ref c1), .val (.int 1), .val (.int 0), .val (.int 0), .unset] [(.int 1)]))
    refine own_to (fun _ kont => XS.goto X3.here hx rfl (pc0 := 71) (pc' := 75) rfl (hb hby at_71) (by decide) (by decide) kont) ?_
    show own_Ends _ _ _ _ (T3.setTop (mkF m 75 #[.val (.int z1), .val (.int 1), .val (.ref c1), .val (.int 1), .val (.int 0), .val (.int 0), .unset] [(.int 1)]))
    refine own_to (fun _ kont => XS.istore X3.here hx rfl (hb hby at_75) rfl (l' := #[.val (.int z1), .val (.int (1 : Int32)), .val (.ref c1), .val (.int (1 : Int32)), .val (.int (0 : Int32)), .val (.int (0 : Int32)), .val (.int (1 : Int32))]) rfl kont) ?_
    show own_Ends _ _ _ _ (T3.setTop (mkF m 77 #[.val (.int z1), .val (.int 1), .val (.ref c1), .val (.int 1), .val (.int 0), .val (.int 0), .val (.int 1)] []))
    refine own_to (fun _ kont => XS.aloadN X3.here hx rfl (hb hby at_77) rfl rfl kont) ?_
    show own_Ends _ _ _ _ (T3.setTop (mkF m 78 #[.val (.int z1), .val (.int 1), .val (.ref c1), .val (.int 1), .val (.int 0), .val (.int 0), .val (.int 1)] [(.ref c1)]))
    obtain ⟨cq4, kq4, q4a, q4b, q4c⟩ := isOf hZ E3 (E_c1.ext O0.2)
    obtain ⟨_, _, ⟨T4, L4, k4, n4⟩, -, X4, ⟨Lc4, hQ4, l4, y4, z4⟩, st4⟩ := X3.virtualBack hx (y := oM1) (z := oM1) hown (mvT hZ (ow7 hw)) (mvT hZ (ow8 hw)) (notFace_of_selects (args := #[]) (mvT hZ (ow10 hw))) (mvT hZ (ow10 hw)) (mvT hZ (ow9 hw)) (by decide) (backOf (W := 0) (rm2 l Z a0 hw [] c1 c1 c2 c4 h0 n0 O0 S_c1 S_c2 S_c4) hZ (ow11 hw) (ow5 hw) (by decide) (by decide)) q4a q4c (g := (mkF m 78 #[.val (.int z1), .val (.int (1 : Int32)), .val (.ref c1), .val (.int (1 : Int32)), .val (.int (0 : Int32)), .val (.int (0 : Int32)), .val (.int (1 : Int32))] [(.ref c1)])) rfl (by rw [hml]; rfl) (Steps.refl _) (argsL := []) (rest := []) (lenOf pd_1 rfl) rfl (by show 2 * 0 + _ ≤ _; exact Nat.le_of_eq rfl) (hb hby at_78) (fun _ _ => ⟨rfl, E3, (own_le rfl), (own_le rfl)⟩)
    dsimp only [Pt.U, Pt.locs, Pt.cells, Pt.slots] at X4 l4 y4 z4 st4 hQ4
    subst l4 y4 z4
    obtain ⟨hv4, N4q, E4⟩ := hQ4
    rw [own_is_yes (by simp)] at hv4
    subst hv4
    have N4 := Fr.app N3 N4q
    refine own_tr st4 ?_
    show own_Ends _ _ _ _ (T4.setTop (mkF m 81 #[.val (.int z1), .val (.int 1), .val (.ref c1), .val (.int 1), .val (.int 0), .val (.int 0), .val (.int 1)] [(.int 1)]))
    refine own_to (fun _ kont => XS.iload X4.here hx rfl (hb hby at_81) rfl kont) ?_
    show own_Ends _ _ _ _ (T4.setTop (mkF m 83 #[.val (.int z1), .val (.int 1), .val (.ref c1), .val (.int 1), .val (.int 0), .val (.int 0), .val (.int 1)] [(.int 1), (.int 1)]))
    refine own_to (fun _ kont => XS.icmpNo X4.here hx rfl (hb hby at_83) rfl (teq (by decide)).2 kont) ?_
    show own_Ends _ _ _ _ (T4.setTop (mkF m 86 #[.val (.int z1), .val (.int 1), .val (.ref c1), .val (.int 1), .val (.int 0), .val (.int 0), .val (.int 1)] []))
    refine own_to (fun _ kont => XS.iconst X4.here hx rfl (hb hby at_86) kont) ?_
    show own_Ends _ _ _ _ (T4.setTop (mkF m 87 #[.val (.int z1), .val (.int 1), .val (.ref c1), .val (.int 1), .val (.int 0), .val (.int 0), .val (.int 1)] [(.int 1)]))
    refine own_to (fun _ kont => XS.goto X4.here hx rfl (pc0 := 87) (pc' := 91) rfl (hb hby at_87) (by decide) (by decide) kont) ?_
    show own_Ends _ _ _ _ (T4.setTop (mkF m 91 #[.val (.int z1), .val (.int 1), .val (.ref c1), .val (.int 1), .val (.int 0), .val (.int 0), .val (.int 1)] [(.int 1)]))
    refine own_leave X4 (v := some (.int (1 : Int32))) (fun h => by rw [Bd.returns] at h; cases h) ?_ (by decide) (by decide) (fun fs hr => retN X4 hx (t := .boolean) Bd.returns (by simp) (hb hby at_91) hr)
    show Q_rm0 Z z1 c0 c1 c2 c3 c4 c5 c6 c7 h0 n0 _ T4.heap _
    rw [E4]
    exact ⟨rfl, N4⟩
  · skip
    show own_Ends _ _ _ _ (s₁.setTop (mkF m 5 #[.val (.int z1), .val (.int 2), .unset, .unset, .unset, .unset, .unset] []))
    refine own_to (fun _ kont => XS.iloadN X0.here hx rfl (hb hby at_5) rfl kont) ?_
    show own_Ends _ _ _ _ (s₁.setTop (mkF m 6 #[.val (.int z1), .val (.int 2), .unset, .unset, .unset, .unset, .unset] [(.int 2)]))
    obtain ⟨_, _, ⟨T5, L5, k5, n5⟩, -, X5, ⟨Lc5, hQ5, l5, y5, z5⟩, st5⟩ := Jvm.LawKit.callS X0 hx (y := oM0) hown (mvT hZ (ow0 hw)) (mvT hZ (ow1 hw)) (mvT hZ (ow2 hw)) (mvT hZ (ow3 hw)) (by decide) (backOf (W := 0) (rm1 l Z a0 hw [] (2 : Int32) c0 c1 c2 c3 c4 c5 c6 c7 h0 n0 O0 S_c0 S_c1 S_c2 S_c3 S_c4 S_c5 S_c6 S_c7) hZ (ow3 hw) (ow2 hw) (by decide) (by decide)) (g := (mkF m 6 #[.val (.int z1), .val (.int (2 : Int32)), .unset, .unset, .unset, .unset, .unset] [(.int (2 : Int32))])) rfl (by rw [hml]; rfl) (argsL := [(.int (2 : Int32))]) (rest := []) (lenOf pd_0 rfl) rfl (by show 2 * 0 + _ ≤ _; exact Nat.le_of_eq rfl) (hb hby at_6) (fun _ _ => ⟨rfl, e0, (own_le rfl), (own_le rfl)⟩)
    dsimp only [Pt.U, Pt.locs, Pt.cells, Pt.slots] at X5 l5 y5 z5 st5 hQ5
    subst l5 y5 z5
    obtain ⟨hv5, N5q, E5⟩ := hQ5
    rw [own_pick_2] at hv5
    subst hv5
    have N5 := Fr.app N0 N5q
    refine own_to st5 ?_
    show own_Ends _ _ _ _ (T5.setTop (mkF m 9 #[.val (.int z1), .val (.int 2), .unset, .unset, .unset, .unset, .unset] [(.ref c2)]))
    refine own_to (fun _ kont => XS.astoreN X5.here hx rfl (hb hby at_9) rfl rfl (l' := #[.val (.int z1), .val (.int (2 : Int32)), .val (.ref c2), .unset, .unset, .unset, .unset]) rfl kont) ?_
    show own_Ends _ _ _ _ (T5.setTop (mkF m 10 #[.val (.int z1), .val (.int 2), .val (.ref c2), .unset, .unset, .unset, .unset] []))
    refine own_to (fun _ kont => XS.iloadN X5.here hx rfl (hb hby at_10) rfl kont) ?_
    show own_Ends _ _ _ _ (T5.setTop (mkF m 11 #[.val (.int z1), .val (.int 2), .val (.ref c2), .unset, .unset, .unset, .unset] [(.int 2)]))
    refine own_to (fun _ kont => XS.ifNo X5.here hx rfl (hb hby at_11) rfl ((if0 _ _).trans (feq (by decide)).1) kont) ?_
    show own_Ends _ _ _ _ (T5.setTop (mkF m 14 #[.val (.int z1), .val (.int 2), .val (.ref c2), .unset, .unset, .unset, .unset] []))
    refine own_to (fun _ kont => XS.iconst X5.here hx rfl (hb hby at_14) kont) ?_
    show own_Ends _ _ _ _ (T5.setTop (mkF m 15 #[.val (.int z1), .val (.int 2), .val (.ref c2), .unset, .unset, .unset, .unset] [(.int 1)]))
    refine own_to (fun _ kont => XS.goto X5.here hx rfl (pc0 := 15) (pc' := 19) rfl (hb hby at_15) (by decide) (by decide) kont) ?_
    show own_Ends _ _ _ _ (T5.setTop (mkF m 19 #[.val (.int z1), .val (.int 2), .val (.ref c2), .unset, .unset, .unset, .unset] [(.int 1)]))
    refine own_to (fun _ kont => XS.istoreN X5.here hx rfl (hb hby at_19) rfl (l' := #[.val (.int z1), .val (.int (2 : Int32)), .val (.ref c2), .val (.int (1 : Int32)), .unset, .unset, .unset]) rfl kont) ?_
    show own_Ends _ _ _ _ (T5.setTop (mkF m 20 #[.val (.int z1), .val (.int 2), .val (.ref c2), .val (.int 1), .unset, .unset, .unset] []))
    refine own_to (fun _ kont => XS.iloadN X5.here hx rfl (hb hby at_20) rfl kont) ?_
    show own_Ends _ _ _ _ (T5.setTop (mkF m 21 #[.val (.int z1), .val (.int 2), .val (.ref c2), .val (.int 1), .unset, .unset, .unset] [(.int 2)]))
    refine own_to (fun _ kont => XS.iconst X5.here hx rfl (hb hby at_21) kont) ?_
    show own_Ends _ _ _ _ (T5.setTop (mkF m 22 #[.val (.int z1), .val (.int 2), .val (.ref c2), .val (.int 1), .unset, .unset, .unset] [(.int 3), (.int 2)]))
    refine own_to (fun _ kont => XS.icmpNo X5.here hx rfl (hb hby at_22) rfl (feq (by decide)).1 kont) ?_
    show own_Ends _ _ _ _ (T5.setTop (mkF m 25 #[.val (.int z1), .val (.int 2), .val (.ref c2), .val (.int 1), .unset, .unset, .unset] []))
    refine own_to (fun _ kont => XS.iloadN X5.here hx rfl (hb hby at_25) rfl kont) ?_
    show own_Ends _ _ _ _ (T5.setTop (mkF m 26 #[.val (.int z1), .val (.int 2), .val (.ref c2), .val (.int 1), .unset, .unset, .unset] [(.int 2)]))
    refine own_to (fun _ kont => XS.iconst X5.here hx rfl (hb hby at_26) kont) ?_
    show own_Ends _ _ _ _ (T5.setTop (mkF m 27 #[.val (.int z1), .val (.int 2), .val (.ref c2), .val (.int 1), .unset, .unset, .unset] [(.int 5), (.int 2)]))
    refine own_to (fun _ kont => XS.icmpYes X5.here hx rfl (pc0 := 27) (pc' := 34) rfl (hb hby at_27) rfl (feq (by decide)).2 (by decide) (by decide) kont) ?_
    show own_Ends _ _ _ _ (T5.setTop (mkF m 34 #[.val (.int z1), .val (.int 2), .val (.ref c2), .val (.int 1), .unset, .unset, .unset] []))
    refine own_to (fun _ kont => XS.iconst X5.here hx rfl (hb hby at_34) kont) ?_
    show own_Ends _ _ _ _ (T5.setTop (mkF m 35 #[.val (.int z1), .val (.int 2), .val (.ref c2), .val (.int 1), .unset, .unset, .unset] [(.int 0)]))
    refine own_to (fun _ kont => XS.istore X5.here hx rfl (hb hby at_35) rfl (l' := #[.val (.int z1), .val (.int (2 : Int32)), .val (.ref c2), .val (.int (1 : Int32)), .val (.int (0 : Int32)), .unset, .unset]) rfl kont) ?_
    show own_Ends _ _ _ _ (T5.setTop (mkF m 37 #[.val (.int z1), .val (.int 2), .val (.ref c2), .val (.int 1), .val (.int 0), .unset, .unset] []))
    refine own_to (fun _ kont => XS.iloadN X5.here hx rfl (hb hby at_37) rfl kont) ?_
    show own_Ends _ _ _ _ (T5.setTop (mkF m 38 #[.val (.int z1), .val (.int 2), .val (.ref c2), .val (.int 1), .val (.int 0), .unset, .unset] [(.int 2)]))
    refine own_to (fun _ kont => XS.bipush X5.here hx rfl (hb hby at_38) kont) ?_
    show own_Ends _ _ _ _ (T5.setTop (mkF m 40 #[.val (.int z1), .val (.int 2), .val (.ref c2), .val (.int 1), .val (.int 0), .unset, .unset] [(.int 6), (.int 2)]))
    refine own_to (fun _ kont => XS.icmpNo X5.here hx rfl (hb hby at_40) rfl (feq (by decide)).1 kont) ?_
    show own_Ends _ _ _ _ (T5.setTop (mkF m 43 #[.val (.int z1), .val (.int 2), .val (.ref c2), .val (.int 1), .val (.int 0), .unset, .unset] []))
    refine own_to (fun _ kont => XS.iloadN X5.here hx rfl (hb hby at_43) rfl kont) ?_
    show own_Ends _ _ _ _ (T5.setTop (mkF m 44 #[.val (.int z1), .val (.int 2), .val (.ref c2), .val (.int 1), .val (.int 0), .unset, .unset] [(.int 2)]))
    refine own_to (fun _ kont => XS.bipush X5.here hx rfl (hb hby at_44) kont) ?_
    show own_Ends _ _ _ _ (T5.setTop (mkF m 46 #[.val (.int z1), .val (.int 2), .val (.ref c2), .val (.int 1), .val (.int 0), .unset, .unset] [(.int 7), (.int 2)]))
    refine own_to (fun _ kont => XS.icmpYes X5.here hx rfl (pc0 := 46) (pc' := 53) rfl (hb hby at_46) rfl (feq (by decide)).2 (by decide) (by decide) kont) ?_
    show own_Ends _ _ _ _ (T5.setTop (mkF m 53 #[.val (.int z1), .val (.int 2), .val (.ref c2), .val (.int 1), .val (.int 0), .unset, .unset] []))
    refine own_to (fun _ kont => XS.iconst X5.here hx rfl (hb hby at_53) kont) ?_
    show own_Ends _ _ _ _ (T5.setTop (mkF m 54 #[.val (.int z1), .val (.int 2), .val (.ref c2), .val (.int 1), .val (.int 0), .unset, .unset] [(.int 0)]))
    refine own_to (fun _ kont => XS.istore X5.here hx rfl (hb hby at_54) rfl (l' := #[.val (.int z1), .val (.int (2 : Int32)), .val (.ref c2), .val (.int (1 : Int32)), .val (.int (0 : Int32)), .val (.int (0 : Int32)), .unset]) rfl kont) ?_
    show own_Ends _ _ _ _ (T5.setTop (mkF m 56 #[.val (.int z1), .val (.int 2), .val (.ref c2), .val (.int 1), .val (.int 0), .val (.int 0), .unset] []))
    refine own_to (fun _ kont => XS.iloadN X5.here hx rfl (hb hby at_56) rfl kont) ?_
    show own_Ends _ _ _ _ (T5.setTop (mkF m 57 #[.val (.int z1), .val (.int 2), .val (.ref c2), .val (.int 1), .val (.int 0), .val (.int 0), .unset] [(.int 1)]))
    refine own_to (fun _ kont => XS.ifNo X5.here hx rfl (hb hby at_57) rfl ((if0 _ _).trans (feq (by decide)).1) kont) ?_
    show own_Ends _ _ _ _ (T5.setTop (mkF m 60 #[.val (.int z1), .val (.int 2), .val (.ref c2), .val (.int 1), .val (.int 0), .val (.int 0), .unset] []))
    refine own_to (fun _ kont => XS.iload X5.here hx rfl (hb hby at_60) rfl kont) ?_
    show own_Ends _ _ _ _ (T5.setTop (mkF m 62 #[.val (.int z1), .val (.int 2), .val (.ref c2), .val (.int 1), .val (.int 0), .val (.int 0), .unset] [(.int 0)]))
    refine own_to (fun _ kont => XS.ifNo X5.here hx rfl (hb hby at_62) rfl ((if0 _ _).trans (teq (by decide)).2) kont) ?_
    show own_Ends _ _ _ _ (T5.setTop (mkF m 65 #[.val (.int z1), .val (.int 2), .val (.ref c2), .val (.int 1), .val (.int 0), .val (.int 0), .unset] []))
    refine own_to (fun _ kont => XS.iload X5.here hx rfl (hb hby at_65) rfl kont) ?_
    show own_Ends _ _ _ _ (T5.setTop (mkF m 67 #[.val (.int z1), .val (.int 2), .val (.ref c2), .val (.int 1), .val (.int 0), .val (.int 0), .unset] [(.int 0)]))
    refine own_to (fun _ kont => XS.ifNo X5.here hx rfl (hb hby at_67) rfl ((if0 _ _).trans (teq (by decide)).2) kont) ?_
    show own_Ends _ _ _ _ (T5.setTop (mkF m 70 #[.val (.int z1), .val (.int 2), .val (.ref c2), .val (.int 1), .val (.int 0), .val (.int 0), .unset] []))
    refine own_to (fun _ kont => XS.iconst X5.here hx rfl (hb hby at_70) kont) ?_
    show own_Ends _ _ _ _ (T5.setTop (mkF m 71 #[.val (.int z1), .val (.int 2), .val (.ref c2), .val (.int 1), .val (.int 0), .val (.int 0), .unset] [(.int 1)]))
    refine own_to (fun _ kont => XS.goto X5.here hx rfl (pc0 := 71) (pc' := 75) rfl (hb hby at_71) (by decide) (by decide) kont) ?_
    show own_Ends _ _ _ _ (T5.setTop (mkF m 75 #[.val (.int z1), .val (.int 2), .val (.ref c2), .val (.int 1), .val (.int 0), .val (.int 0), .unset] [(.int 1)]))
    refine own_to (fun _ kont => XS.istore X5.here hx rfl (hb hby at_75) rfl (l' := #[.val (.int z1), .val (.int (2 : Int32)), .val (.ref c2), .val (.int (1 : Int32)), .val (.int (0 : Int32)), .val (.int (0 : Int32)), .val (.int (1 : Int32))]) rfl kont) ?_
    show own_Ends _ _ _ _ (T5.setTop (mkF m 77 #[.val (.int z1), .val (.int 2), .val (.ref c2), .val (.int 1), .val (.int 0), .val (.int 0), .val (.int 1)] []))
    refine own_to (fun _ kont => XS.aloadN X5.here hx rfl (hb hby at_77) rfl rfl kont) ?_
    show own_Ends _ _ _ _ (T5.setTop (mkF m 78 #[.val (.int z1), .val (.int 2), .val (.ref c2), .val (.int 1), .val (.int 0), .val (.int 0), .val (.int 1)] [(.ref c2)]))
    obtain ⟨cq6, kq6, q6a, q6b, q6c⟩ := isOf hZ E5 (E_c2.ext O0.2)
    obtain ⟨_, _, ⟨T6, L6, k6, n6⟩, -, X6, ⟨Lc6, hQ6, l6, y6, z6⟩, st6⟩ := X5.virtualBack hx (y := oM1) (z := oM1) hown (mvT hZ (ow7 hw)) (mvT hZ (ow8 hw)) (notFace_of_selects (args := #[]) (mvT hZ (ow10 hw))) (mvT hZ (ow10 hw)) (mvT hZ (ow9 hw)) (by decide) (backOf (W := 0) (rm2 l Z a0 hw [] c2 c1 c2 c4 h0 n0 O0 S_c1 S_c2 S_c4) hZ (ow11 hw) (ow5 hw) (by decide) (by decide)) q6a q6c (g := (mkF m 78 #[.val (.int z1), .val (.int (2 : Int32)), .val (.ref c2), .val (.int (1 : Int32)), .val (.int (0 : Int32)), .val (.int (0 : Int32)), .val (.int (1 : Int32))] [(.ref c2)])) rfl (by rw [hml]; rfl) (Steps.refl _) (argsL := []) (rest := []) (lenOf pd_1 rfl) rfl (by show 2 * 0 + _ ≤ _; exact Nat.le_of_eq rfl) (hb hby at_78) (fun _ _ => ⟨rfl, E5, (own_le rfl), (own_le rfl)⟩)
    dsimp only [Pt.U, Pt.locs, Pt.cells, Pt.slots] at X6 l6 y6 z6 st6 hQ6
    subst l6 y6 z6
    obtain ⟨hv6, N6q, E6⟩ := hQ6
    rw [own_is_yes (by simp)] at hv6
    subst hv6
    have N6 := Fr.app N5 N6q
    refine own_tr st6 ?_
    show own_Ends _ _ _ _ (T6.setTop (mkF m 81 #[.val (.int z1), .val (.int 2), .val (.ref c2), .val (.int 1), .val (.int 0), .val (.int 0), .val (.int 1)] [(.int 1)]))
    refine own_to (fun _ kont => XS.iload X6.here hx rfl (hb hby at_81) rfl kont) ?_
    show own_Ends _ _ _ _ (T6.setTop (mkF m 83 #[.val (.int z1), .val (.int 2), .val (.ref c2), .val (.int 1), .val (.int 0), .val (.int 0), .val (.int 1)] [(.int 1), (.int 1)]))
    refine own_to (fun _ kont => XS.icmpNo X6.here hx rfl (hb hby at_83) rfl (teq (by decide)).2 kont) ?_
    show own_Ends _ _ _ _ (T6.setTop (mkF m 86 #[.val (.int z1), .val (.int 2), .val (.ref c2), .val (.int 1), .val (.int 0), .val (.int 0), .val (.int 1)] []))
    refine own_to (fun _ kont => XS.iconst X6.here hx rfl (hb hby at_86) kont) ?_
    show own_Ends _ _ _ _ (T6.setTop (mkF m 87 #[.val (.int z1), .val (.int 2), .val (.ref c2), .val (.int 1), .val (.int 0), .val (.int 0), .val (.int 1)] [(.int 1)]))
    refine own_to (fun _ kont => XS.goto X6.here hx rfl (pc0 := 87) (pc' := 91) rfl (hb hby at_87) (by decide) (by decide) kont) ?_
    show own_Ends _ _ _ _ (T6.setTop (mkF m 91 #[.val (.int z1), .val (.int 2), .val (.ref c2), .val (.int 1), .val (.int 0), .val (.int 0), .val (.int 1)] [(.int 1)]))
    refine own_leave X6 (v := some (.int (1 : Int32))) (fun h => by rw [Bd.returns] at h; cases h) ?_ (by decide) (by decide) (fun fs hr => retN X6 hx (t := .boolean) Bd.returns (by simp) (hb hby at_91) hr)
    show Q_rm0 Z z1 c0 c1 c2 c3 c4 c5 c6 c7 h0 n0 _ T6.heap _
    rw [E6]
    exact ⟨rfl, N6⟩
  · skip
    show own_Ends _ _ _ _ (s₁.setTop (mkF m 5 #[.val (.int z1), .val (.int 3), .unset, .unset, .unset, .unset, .unset] []))
    refine own_to (fun _ kont => XS.iloadN X0.here hx rfl (hb hby at_5) rfl kont) ?_
    show own_Ends _ _ _ _ (s₁.setTop (mkF m 6 #[.val (.int z1), .val (.int 3), .unset, .unset, .unset, .unset, .unset] [(.int 3)]))
    obtain ⟨_, _, ⟨T7, L7, k7, n7⟩, -, X7, ⟨Lc7, hQ7, l7, y7, z7⟩, st7⟩ := Jvm.LawKit.callS X0 hx (y := oM0) hown (mvT hZ (ow0 hw)) (mvT hZ (ow1 hw)) (mvT hZ (ow2 hw)) (mvT hZ (ow3 hw)) (by decide) (backOf (W := 0) (rm1 l Z a0 hw [] (3 : Int32) c0 c1 c2 c3 c4 c5 c6 c7 h0 n0 O0 S_c0 S_c1 S_c2 S_c3 S_c4 S_c5 S_c6 S_c7) hZ (ow3 hw) (ow2 hw) (by decide) (by decide)) (g := (mkF m 6 #[.val (.int z1), .val (.int (3 : Int32)), .unset, .unset, .unset, .unset, .unset] [(.int (3 : Int32))])) rfl (by rw [hml]; rfl) (argsL := [(.int (3 : Int32))]) (rest := []) (lenOf pd_0 rfl) rfl (by show 2 * 0 + _ ≤ _; exact Nat.le_of_eq rfl) (hb hby at_6) (fun _ _ => ⟨rfl, e0, (own_le rfl), (own_le rfl)⟩)
    dsimp only [Pt.U, Pt.locs, Pt.cells, Pt.slots] at X7 l7 y7 z7 st7 hQ7
    subst l7 y7 z7
    obtain ⟨hv7, N7q, E7⟩ := hQ7
    rw [own_pick_3] at hv7
    subst hv7
    have N7 := Fr.app N0 N7q
    refine own_to st7 ?_
    show own_Ends _ _ _ _ (T7.setTop (mkF m 9 #[.val (.int z1), .val (.int 3), .unset, .unset, .unset, .unset, .unset] [(.ref c3)]))
    refine own_to (fun _ kont => XS.astoreN X7.here hx rfl (hb hby at_9) rfl rfl (l' := #[.val (.int z1), .val (.int (3 : Int32)), .val (.ref c3), .unset, .unset, .unset, .unset]) rfl kont) ?_
    show own_Ends _ _ _ _ (T7.setTop (mkF m 10 #[.val (.int z1), .val (.int 3), .val (.ref c3), .unset, .unset, .unset, .unset] []))
    refine own_to (fun _ kont => XS.iloadN X7.here hx rfl (hb hby at_10) rfl kont) ?_
    show own_Ends _ _ _ _ (T7.setTop (mkF m 11 #[.val (.int z1), .val (.int 3), .val (.ref c3), .unset, .unset, .unset, .unset] [(.int 3)]))
    refine own_to (fun _ kont => XS.ifNo X7.here hx rfl (hb hby at_11) rfl ((if0 _ _).trans (feq (by decide)).1) kont) ?_
    show own_Ends _ _ _ _ (T7.setTop (mkF m 14 #[.val (.int z1), .val (.int 3), .val (.ref c3), .unset, .unset, .unset, .unset] []))
    refine own_to (fun _ kont => XS.iconst X7.here hx rfl (hb hby at_14) kont) ?_
    show own_Ends _ _ _ _ (T7.setTop (mkF m 15 #[.val (.int z1), .val (.int 3), .val (.ref c3), .unset, .unset, .unset, .unset] [(.int 1)]))
    refine own_to (fun _ kont => XS.goto X7.here hx rfl (pc0 := 15) (pc' := 19) rfl (hb hby at_15) (by decide) (by decide) kont) ?_
    show own_Ends _ _ _ _ (T7.setTop (mkF m 19 #[.val (.int z1), .val (.int 3), .val (.ref c3), .unset, .unset, .unset, .unset] [(.int 1)]))
    refine own_to (fun _ kont => XS.istoreN X7.here hx rfl (hb hby at_19) rfl (l' := #[.val (.int z1), .val (.int (3 : Int32)), .val (.ref c3), .val (.int (1 : Int32)), .unset, .unset, .unset]) rfl kont) ?_
    show own_Ends _ _ _ _ (T7.setTop (mkF m 20 #[.val (.int z1), .val (.int 3), .val (.ref c3), .val (.int 1), .unset, .unset, .unset] []))
    refine own_to (fun _ kont => XS.iloadN X7.here hx rfl (hb hby at_20) rfl kont) ?_
    show own_Ends _ _ _ _ (T7.setTop (mkF m 21 #[.val (.int z1), .val (.int 3), .val (.ref c3), .val (.int 1), .unset, .unset, .unset] [(.int 3)]))
    refine own_to (fun _ kont => XS.iconst X7.here hx rfl (hb hby at_21) kont) ?_
    show own_Ends _ _ _ _ (T7.setTop (mkF m 22 #[.val (.int z1), .val (.int 3), .val (.ref c3), .val (.int 1), .unset, .unset, .unset] [(.int 3), (.int 3)]))
    refine own_to (fun _ kont => XS.icmpYes X7.here hx rfl (pc0 := 22) (pc' := 30) rfl (hb hby at_22) rfl (teq (by decide)).1 (by decide) (by decide) kont) ?_
    show own_Ends _ _ _ _ (T7.setTop (mkF m 30 #[.val (.int z1), .val (.int 3), .val (.ref c3), .val (.int 1), .unset, .unset, .unset] []))
    refine own_to (fun _ kont => XS.iconst X7.here hx rfl (hb hby at_30) kont) ?_
    show own_Ends _ _ _ _ (T7.setTop (mkF m 31 #[.val (.int z1), .val (.int 3), .val (.ref c3), .val (.int 1), .unset, .unset, .unset] [(.int 1)]))
    refine own_to (fun _ kont => XS.goto X7.here hx rfl (pc0 := 31) (pc' := 35) rfl (hb hby at_31) (by decide) (by decide) kont) ?_
    show own_Ends _ _ _ _ (T7.setTop (mkF m 35 #[.val (.int z1), .val (.int 3), .val (.ref c3), .val (.int 1), .unset, .unset, .unset] [(.int 1)]))
    refine own_to (fun _ kont => XS.istore X7.here hx rfl (hb hby at_35) rfl (l' := #[.val (.int z1), .val (.int (3 : Int32)), .val (.ref c3), .val (.int (1 : Int32)), .val (.int (1 : Int32)), .unset, .unset]) rfl kont) ?_
    show own_Ends _ _ _ _ (T7.setTop (mkF m 37 #[.val (.int z1), .val (.int 3), .val (.ref c3), .val (.int 1), .val (.int 1), .unset, .unset] []))
    refine own_to (fun _ kont => XS.iloadN X7.here hx rfl (hb hby at_37) rfl kont) ?_
    show own_Ends _ _ _ _ (T7.setTop (mkF m 38 #[.val (.int z1), .val (.int 3), .val (.ref c3), .val (.int 1), .val (.int 1), .unset, .unset] [(.int 3)]))
    refine own_to (fun _ kont => XS.bipush X7.here hx rfl (hb hby at_38) kont) ?_
    show own_Ends _ _ _ _ (T7.setTop (mkF m 40 #[.val (.int z1), .val (.int 3), .val (.ref c3), .val (.int 1), .val (.int 1), .unset, .unset] [(.int 6), (.int 3)]))
    refine own_to (fun _ kont => XS.icmpNo X7.here hx rfl (hb hby at_40) rfl (feq (by decide)).1 kont) ?_
    show own_Ends _ _ _ _ (T7.setTop (mkF m 43 #[.val (.int z1), .val (.int 3), .val (.ref c3), .val (.int 1), .val (.int 1), .unset, .unset] []))
    refine own_to (fun _ kont => XS.iloadN X7.here hx rfl (hb hby at_43) rfl kont) ?_
    show own_Ends _ _ _ _ (T7.setTop (mkF m 44 #[.val (.int z1), .val (.int 3), .val (.ref c3), .val (.int 1), .val (.int 1), .unset, .unset] [(.int 3)]))
    refine own_to (fun _ kont => XS.bipush X7.here hx rfl (hb hby at_44) kont) ?_
    show own_Ends _ _ _ _ (T7.setTop (mkF m 46 #[.val (.int z1), .val (.int 3), .val (.ref c3), .val (.int 1), .val (.int 1), .unset, .unset] [(.int 7), (.int 3)]))
    refine own_to (fun _ kont => XS.icmpYes X7.here hx rfl (pc0 := 46) (pc' := 53) rfl (hb hby at_46) rfl (feq (by decide)).2 (by decide) (by decide) kont) ?_
    show own_Ends _ _ _ _ (T7.setTop (mkF m 53 #[.val (.int z1), .val (.int 3), .val (.ref c3), .val (.int 1), .val (.int 1), .unset, .unset] []))
    refine own_to (fun _ kont => XS.iconst X7.here hx rfl (hb hby at_53) kont) ?_
    show own_Ends _ _ _ _ (T7.setTop (mkF m 54 #[.val (.int z1), .val (.int 3), .val (.ref c3), .val (.int 1), .val (.int 1), .unset, .unset] [(.int 0)]))
    refine own_to (fun _ kont => XS.istore X7.here hx rfl (hb hby at_54) rfl (l' := #[.val (.int z1), .val (.int (3 : Int32)), .val (.ref c3), .val (.int (1 : Int32)), .val (.int (1 : Int32)), .val (.int (0 : Int32)), .unset]) rfl kont) ?_
    show own_Ends _ _ _ _ (T7.setTop (mkF m 56 #[.val (.int z1), .val (.int 3), .val (.ref c3), .val (.int 1), .val (.int 1), .val (.int 0), .unset] []))
    refine own_to (fun _ kont => XS.iloadN X7.here hx rfl (hb hby at_56) rfl kont) ?_
    show own_Ends _ _ _ _ (T7.setTop (mkF m 57 #[.val (.int z1), .val (.int 3), .val (.ref c3), .val (.int 1), .val (.int 1), .val (.int 0), .unset] [(.int 1)]))
    refine own_to (fun _ kont => XS.ifNo X7.here hx rfl (hb hby at_57) rfl ((if0 _ _).trans (feq (by decide)).1) kont) ?_
    show own_Ends _ _ _ _ (T7.setTop (mkF m 60 #[.val (.int z1), .val (.int 3), .val (.ref c3), .val (.int 1), .val (.int 1), .val (.int 0), .unset] []))
    refine own_to (fun _ kont => XS.iload X7.here hx rfl (hb hby at_60) rfl kont) ?_
    show own_Ends _ _ _ _ (T7.setTop (mkF m 62 #[.val (.int z1), .val (.int 3), .val (.ref c3), .val (.int 1), .val (.int 1), .val (.int 0), .unset] [(.int 1)]))
    refine own_to (fun _ kont => XS.ifYes X7.here hx rfl (pc0 := 62) (pc' := 74) rfl (hb hby at_62) rfl ((if0 _ _).trans (feq (by decide)).2) (by decide) (by decide) kont) ?_
    show own_Ends _ _ _ _ (T7.setTop (mkF m 74 #[.val (.int z1), .val (.int 3), .val (.ref c3), .val (.int 1), .val (.int 1), .val (.int 0), .unset] []))
    refine own_to (fun _ kont => XS.iconst X7.here hx rfl (hb hby at_74) kont) ?_
    show own_Ends _ _ _ _ (T7.setTop (mkF m 75 #[.val (.int z1), .val (.int 3), .val (.ref c3), .val (.int 1), .val (.int 1), .val (.int 0), .unset] [(.int 0)]))
    refine own_to (fun _ kont => XS.istore X7.here hx rfl (hb hby at_75) rfl (l' := #[.val (.int z1), .val (.int (3 : Int32)), .val (.ref c3), .val (.int (1 : Int32)), .val (.int (1 : Int32)), .val (.int (0 : Int32)), .val (.int (0 : Int32))]) rfl kont) ?_
    show own_Ends _ _ _ _ (T7.setTop (mkF m 77 #[.val (.int z1), .val (.int 3), .val (.ref c3), .val (.int 1), .val (.int 1), .val (.int 0), .val (.int 0)] []))
    refine own_to (fun _ kont => XS.aloadN X7.here hx rfl (hb hby at_77) rfl rfl kont) ?_
    show own_Ends _ _ _ _ (T7.setTop (mkF m 78 #[.val (.int z1), .val (.int 3), .val (.ref c3), .val (.int 1), .val (.int 1), .val (.int 0), .val (.int 0)] [(.ref c3)]))
    obtain ⟨cq8, kq8, q8a, q8b, q8c⟩ := isOf hZ E7 (E_c3.ext O0.2)
    obtain ⟨_, _, ⟨T8, L8, k8, n8⟩, -, X8, ⟨Lc8, hQ8, l8, y8, z8⟩, st8⟩ := X7.virtualBack hx (y := oM1) (z := oM1) hown (mvT hZ (ow7 hw)) (mvT hZ (ow8 hw)) (notFace_of_selects (args := #[]) (mvT hZ (ow10 hw))) (mvT hZ (ow10 hw)) (mvT hZ (ow9 hw)) (by decide) (backOf (W := 0) (rm2 l Z a0 hw [] c3 c1 c2 c4 h0 n0 O0 S_c1 S_c2 S_c4) hZ (ow11 hw) (ow5 hw) (by decide) (by decide)) q8a q8c (g := (mkF m 78 #[.val (.int z1), .val (.int (3 : Int32)), .val (.ref c3), .val (.int (1 : Int32)), .val (.int (1 : Int32)), .val (.int (0 : Int32)), .val (.int (0 : Int32))] [(.ref c3)])) rfl (by rw [hml]; rfl) (Steps.refl _) (argsL := []) (rest := []) (lenOf pd_1 rfl) rfl (by show 2 * 0 + _ ≤ _; exact Nat.le_of_eq rfl) (hb hby at_78) (fun _ _ => ⟨rfl, E7, (own_le rfl), (own_le rfl)⟩)
    dsimp only [Pt.U, Pt.locs, Pt.cells, Pt.slots] at X8 l8 y8 z8 st8 hQ8
    subst l8 y8 z8
    obtain ⟨hv8, N8q, E8⟩ := hQ8
    rw [own_is_no (Fld.ne F_c3 F_c1 (own_intne (by decide))) (Fld.ne F_c3 F_c2 (own_intne (by decide))) (Fld.ne F_c3 F_c4 (own_intne (by decide)))] at hv8
    subst hv8
    have N8 := Fr.app N7 N8q
    refine own_tr st8 ?_
    show own_Ends _ _ _ _ (T8.setTop (mkF m 81 #[.val (.int z1), .val (.int 3), .val (.ref c3), .val (.int 1), .val (.int 1), .val (.int 0), .val (.int 0)] [(.int 0)]))
    refine own_to (fun _ kont => XS.iload X8.here hx rfl (hb hby at_81) rfl kont) ?_
    show own_Ends _ _ _ _ (T8.setTop (mkF m 83 #[.val (.int z1), .val (.int 3), .val (.ref c3), .val (.int 1), .val (.int 1), .val (.int 0), .val (.int 0)] [(.int 0), (.int 0)]))
    refine own_to (fun _ kont => XS.icmpNo X8.here hx rfl (hb hby at_83) rfl (teq (by decide)).2 kont) ?_
    show own_Ends _ _ _ _ (T8.setTop (mkF m 86 #[.val (.int z1), .val (.int 3), .val (.ref c3), .val (.int 1), .val (.int 1), .val (.int 0), .val (.int 0)] []))
    refine own_to (fun _ kont => XS.iconst X8.here hx rfl (hb hby at_86) kont) ?_
    show own_Ends _ _ _ _ (T8.setTop (mkF m 87 #[.val (.int z1), .val (.int 3), .val (.ref c3), .val (.int 1), .val (.int 1), .val (.int 0), .val (.int 0)] [(.int 1)]))
    refine own_to (fun _ kont => XS.goto X8.here hx rfl (pc0 := 87) (pc' := 91) rfl (hb hby at_87) (by decide) (by decide) kont) ?_
    show own_Ends _ _ _ _ (T8.setTop (mkF m 91 #[.val (.int z1), .val (.int 3), .val (.ref c3), .val (.int 1), .val (.int 1), .val (.int 0), .val (.int 0)] [(.int 1)]))
    refine own_leave X8 (v := some (.int (1 : Int32))) (fun h => by rw [Bd.returns] at h; cases h) ?_ (by decide) (by decide) (fun fs hr => retN X8 hx (t := .boolean) Bd.returns (by simp) (hb hby at_91) hr)
    show Q_rm0 Z z1 c0 c1 c2 c3 c4 c5 c6 c7 h0 n0 _ T8.heap _
    rw [E8]
    exact ⟨rfl, N8⟩
  · skip
    show own_Ends _ _ _ _ (s₁.setTop (mkF m 5 #[.val (.int z1), .val (.int 4), .unset, .unset, .unset, .unset, .unset] []))
    refine own_to (fun _ kont => XS.iloadN X0.here hx rfl (hb hby at_5) rfl kont) ?_
    show own_Ends _ _ _ _ (s₁.setTop (mkF m 6 #[.val (.int z1), .val (.int 4), .unset, .unset, .unset, .unset, .unset] [(.int 4)]))
    obtain ⟨_, _, ⟨T9, L9, k9, n9⟩, -, X9, ⟨Lc9, hQ9, l9, y9, z9⟩, st9⟩ := Jvm.LawKit.callS X0 hx (y := oM0) hown (mvT hZ (ow0 hw)) (mvT hZ (ow1 hw)) (mvT hZ (ow2 hw)) (mvT hZ (ow3 hw)) (by decide) (backOf (W := 0) (rm1 l Z a0 hw [] (4 : Int32) c0 c1 c2 c3 c4 c5 c6 c7 h0 n0 O0 S_c0 S_c1 S_c2 S_c3 S_c4 S_c5 S_c6 S_c7) hZ (ow3 hw) (ow2 hw) (by decide) (by decide)) (g := (mkF m 6 #[.val (.int z1), .val (.int (4 : Int32)), .unset, .unset, .unset, .unset, .unset] [(.int (4 : Int32))])) rfl (by rw [hml]; rfl) (argsL := [(.int (4 : Int32))]) (rest := []) (lenOf pd_0 rfl) rfl (by show 2 * 0 + _ ≤ _; exact Nat.le_of_eq rfl) (hb hby at_6) (fun _ _ => ⟨rfl, e0, (own_le rfl), (own_le rfl)⟩)
    dsimp only [Pt.U, Pt.locs, Pt.cells, Pt.slots] at X9 l9 y9 z9 st9 hQ9
    subst l9 y9 z9
    obtain ⟨hv9, N9q, E9⟩ := hQ9
    rw [own_pick_4] at hv9
    subst hv9
    have N9 := Fr.app N0 N9q
    refine own_to st9 ?_
    show own_Ends _ _ _ _ (T9.setTop (mkF m 9 #[.val (.int z1), .val (.int 4), .unset, .unset, .unset, .unset, .unset] [(.ref c4)]))
    refine own_to (fun _ kont => XS.astoreN X9.here hx rfl (hb hby at_9) rfl rfl (l' := #[.val (.int z1), .val (.int (4 : Int32)), .val (.ref c4), .unset, .unset, .unset, .unset]) rfl kont) ?_
    show own_Ends _ _ _ _ (T9.setTop (mkF m 10 #[.val (.int z1), .val (.int 4), .val (.ref c4), .unset, .unset, .unset, .unset] []))
    refine own_to (fun _ kont => XS.iloadN X9.here hx rfl (hb hby at_10) rfl kont) ?_
    show own_Ends _ _ _ _ (T9.setTop (mkF m 11 #[.val (.int z1), .val (.int 4), .val (.ref c4), .unset, .unset, .unset, .unset] [(.int 4)]))
    refine own_to (fun _ kont => XS.ifNo X9.here hx rfl (hb hby at_11) rfl ((if0 _ _).trans (feq (by decide)).1) kont) ?_
    show own_Ends _ _ _ _ (T9.setTop (mkF m 14 #[.val (.int z1), .val (.int 4), .val (.ref c4), .unset, .unset, .unset, .unset] []))
    refine own_to (fun _ kont => XS.iconst X9.here hx rfl (hb hby at_14) kont) ?_
    show own_Ends _ _ _ _ (T9.setTop (mkF m 15 #[.val (.int z1), .val (.int 4), .val (.ref c4), .unset, .unset, .unset, .unset] [(.int 1)]))
    refine own_to (fun _ kont => XS.goto X9.here hx rfl (pc0 := 15) (pc' := 19) rfl (hb hby at_15) (by decide) (by decide) kont) ?_
    show own_Ends _ _ _ _ (T9.setTop (mkF m 19 #[.val (.int z1), .val (.int 4), .val (.ref c4), .unset, .unset, .unset, .unset] [(.int 1)]))
    refine own_to (fun _ kont => XS.istoreN X9.here hx rfl (hb hby at_19) rfl (l' := #[.val (.int z1), .val (.int (4 : Int32)), .val (.ref c4), .val (.int (1 : Int32)), .unset, .unset, .unset]) rfl kont) ?_
    show own_Ends _ _ _ _ (T9.setTop (mkF m 20 #[.val (.int z1), .val (.int 4), .val (.ref c4), .val (.int 1), .unset, .unset, .unset] []))
    refine own_to (fun _ kont => XS.iloadN X9.here hx rfl (hb hby at_20) rfl kont) ?_
    show own_Ends _ _ _ _ (T9.setTop (mkF m 21 #[.val (.int z1), .val (.int 4), .val (.ref c4), .val (.int 1), .unset, .unset, .unset] [(.int 4)]))
    refine own_to (fun _ kont => XS.iconst X9.here hx rfl (hb hby at_21) kont) ?_
    show own_Ends _ _ _ _ (T9.setTop (mkF m 22 #[.val (.int z1), .val (.int 4), .val (.ref c4), .val (.int 1), .unset, .unset, .unset] [(.int 3), (.int 4)]))
    refine own_to (fun _ kont => XS.icmpNo X9.here hx rfl (hb hby at_22) rfl (feq (by decide)).1 kont) ?_
    show own_Ends _ _ _ _ (T9.setTop (mkF m 25 #[.val (.int z1), .val (.int 4), .val (.ref c4), .val (.int 1), .unset, .unset, .unset] []))
    refine own_to (fun _ kont => XS.iloadN X9.here hx rfl (hb hby at_25) rfl kont) ?_
    show own_Ends _ _ _ _ (T9.setTop (mkF m 26 #[.val (.int z1), .val (.int 4), .val (.ref c4), .val (.int 1), .unset, .unset, .unset] [(.int 4)]))
    refine own_to (fun _ kont => XS.iconst X9.here hx rfl (hb hby at_26) kont) ?_
    show own_Ends _ _ _ _ (T9.setTop (mkF m 27 #[.val (.int z1), .val (.int 4), .val (.ref c4), .val (.int 1), .unset, .unset, .unset] [(.int 5), (.int 4)]))
    refine own_to (fun _ kont => XS.icmpYes X9.here hx rfl (pc0 := 27) (pc' := 34) rfl (hb hby at_27) rfl (feq (by decide)).2 (by decide) (by decide) kont) ?_
    show own_Ends _ _ _ _ (T9.setTop (mkF m 34 #[.val (.int z1), .val (.int 4), .val (.ref c4), .val (.int 1), .unset, .unset, .unset] []))
    refine own_to (fun _ kont => XS.iconst X9.here hx rfl (hb hby at_34) kont) ?_
    show own_Ends _ _ _ _ (T9.setTop (mkF m 35 #[.val (.int z1), .val (.int 4), .val (.ref c4), .val (.int 1), .unset, .unset, .unset] [(.int 0)]))
    refine own_to (fun _ kont => XS.istore X9.here hx rfl (hb hby at_35) rfl (l' := #[.val (.int z1), .val (.int (4 : Int32)), .val (.ref c4), .val (.int (1 : Int32)), .val (.int (0 : Int32)), .unset, .unset]) rfl kont) ?_
    show own_Ends _ _ _ _ (T9.setTop (mkF m 37 #[.val (.int z1), .val (.int 4), .val (.ref c4), .val (.int 1), .val (.int 0), .unset, .unset] []))
    refine own_to (fun _ kont => XS.iloadN X9.here hx rfl (hb hby at_37) rfl kont) ?_
    show own_Ends _ _ _ _ (T9.setTop (mkF m 38 #[.val (.int z1), .val (.int 4), .val (.ref c4), .val (.int 1), .val (.int 0), .unset, .unset] [(.int 4)]))
    refine own_to (fun _ kont => XS.bipush X9.here hx rfl (hb hby at_38) kont) ?_
    show own_Ends _ _ _ _ (T9.setTop (mkF m 40 #[.val (.int z1), .val (.int 4), .val (.ref c4), .val (.int 1), .val (.int 0), .unset, .unset] [(.int 6), (.int 4)]))
    refine own_to (fun _ kont => XS.icmpNo X9.here hx rfl (hb hby at_40) rfl (feq (by decide)).1 kont) ?_
    show own_Ends _ _ _ _ (T9.setTop (mkF m 43 #[.val (.int z1), .val (.int 4), .val (.ref c4), .val (.int 1), .val (.int 0), .unset, .unset] []))
    refine own_to (fun _ kont => XS.iloadN X9.here hx rfl (hb hby at_43) rfl kont) ?_
    show own_Ends _ _ _ _ (T9.setTop (mkF m 44 #[.val (.int z1), .val (.int 4), .val (.ref c4), .val (.int 1), .val (.int 0), .unset, .unset] [(.int 4)]))
    refine own_to (fun _ kont => XS.bipush X9.here hx rfl (hb hby at_44) kont) ?_
    show own_Ends _ _ _ _ (T9.setTop (mkF m 46 #[.val (.int z1), .val (.int 4), .val (.ref c4), .val (.int 1), .val (.int 0), .unset, .unset] [(.int 7), (.int 4)]))
    refine own_to (fun _ kont => XS.icmpYes X9.here hx rfl (pc0 := 46) (pc' := 53) rfl (hb hby at_46) rfl (feq (by decide)).2 (by decide) (by decide) kont) ?_
    show own_Ends _ _ _ _ (T9.setTop (mkF m 53 #[.val (.int z1), .val (.int 4), .val (.ref c4), .val (.int 1), .val (.int 0), .unset, .unset] []))
    refine own_to (fun _ kont => XS.iconst X9.here hx rfl (hb hby at_53) kont) ?_
    show own_Ends _ _ _ _ (T9.setTop (mkF m 54 #[.val (.int z1), .val (.int 4), .val (.ref c4), .val (.int 1), .val (.int 0), .unset, .unset] [(.int 0)]))
    refine own_to (fun _ kont => XS.istore X9.here hx rfl (hb hby at_54) rfl (l' := #[.val (.int z1), .val (.int (4 : Int32)), .val (.ref c4), .val (.int (1 : Int32)), .val (.int (0 : Int32)), .val (.int (0 : Int32)), .unset]) rfl kont) ?_
    show own_Ends _ _ _ _ (T9.setTop (mkF m 56 #[.val (.int z1), .val (.int 4), .val (.ref c4), .val (.int 1), .val (.int 0), .val (.int 0), .unset] []))
    refine own_to (fun _ kont => XS.iloadN X9.here hx rfl (hb hby at_56) rfl kont) ?_
    show own_Ends _ _ _ _ (T9.setTop (mkF m 57 #[.val (.int z1), .val (.int 4), .val (.ref c4), .val (.int 1), .val (.int 0), .val (.int 0), .unset] [(.int 1)]))
    refine own_to (fun _ kont => XS.ifNo X9.here hx rfl (hb hby at_57) rfl ((if0 _ _).trans (feq (by decide)).1) kont) ?_
    show own_Ends _ _ _ _ (T9.setTop (mkF m 60 #[.val (.int z1), .val (.int 4), .val (.ref c4), .val (.int 1), .val (.int 0), .val (.int 0), .unset] []))
    refine own_to (fun _ kont => XS.iload X9.here hx rfl (hb hby at_60) rfl kont) ?_
    show own_Ends _ _ _ _ (T9.setTop (mkF m 62 #[.val (.int z1), .val (.int 4), .val (.ref c4), .val (.int 1), .val (.int 0), .val (.int 0), .unset] [(.int 0)]))
    refine own_to (fun _ kont => XS.ifNo X9.here hx rfl (hb hby at_62) rfl ((if0 _ _).trans (teq (by decide)).2) kont) ?_
    show own_Ends _ _ _ _ (T9.setTop (mkF m 65 #[.val (.int z1), .val (.int 4), .val (.ref c4), .val (.int 1), .val (.int 0), .val (.int 0), .unset] []))
    refine own_to (fun _ kont => XS.iload X9.here hx rfl (hb hby at_65) rfl kont) ?_
    show own_Ends _ _ _ _ (T9.setTop (mkF m 67 #[.val (.int z1), .val (.int 4), .val (.ref c4), .val (.int 1), .val (.int 0), .val (.int 0), .unset] [(.int 0)]))
    refine own_to (fun _ kont => XS.ifNo X9.here hx rfl (hb hby at_67) rfl ((if0 _ _).trans (teq (by decide)).2) kont) ?_
    show own_Ends _ _ _ _ (T9.setTop (mkF m 70 #[.val (.int z1), .val (.int 4), .val (.ref c4), .val (.int 1), .val (.int 0), .val (.int 0), .unset] []))
    refine own_to (fun _ kont => XS.iconst X9.here hx rfl (hb hby at_70) kont) ?_
    show own_Ends _ _ _ _ (T9.setTop (mkF m 71 #[.val (.int z1), .val (.int 4), .val (.ref c4), .val (.int 1), .val (.int 0), .val (.int 0), .unset] [(.int 1)]))
    refine own_to (fun _ kont => XS.goto X9.here hx rfl (pc0 := 71) (pc' := 75) rfl (hb hby at_71) (by decide) (by decide) kont) ?_
    show own_Ends _ _ _ _ (T9.setTop (mkF m 75 #[.val (.int z1), .val (.int 4), .val (.ref c4), .val (.int 1), .val (.int 0), .val (.int 0), .unset] [(.int 1)]))
    refine own_to (fun _ kont => XS.istore X9.here hx rfl (hb hby at_75) rfl (l' := #[.val (.int z1), .val (.int (4 : Int32)), .val (.ref c4), .val (.int (1 : Int32)), .val (.int (0 : Int32)), .val (.int (0 : Int32)), .val (.int (1 : Int32))]) rfl kont) ?_
    show own_Ends _ _ _ _ (T9.setTop (mkF m 77 #[.val (.int z1), .val (.int 4), .val (.ref c4), .val (.int 1), .val (.int 0), .val (.int 0), .val (.int 1)] []))
    refine own_to (fun _ kont => XS.aloadN X9.here hx rfl (hb hby at_77) rfl rfl kont) ?_
    show own_Ends _ _ _ _ (T9.setTop (mkF m 78 #[.val (.int z1), .val (.int 4), .val (.ref c4), .val (.int 1), .val (.int 0), .val (.int 0), .val (.int 1)] [(.ref c4)]))
    obtain ⟨cq10, kq10, q10a, q10b, q10c⟩ := isOf hZ E9 (E_c4.ext O0.2)
    obtain ⟨_, _, ⟨T10, L10, k10, n10⟩, -, X10, ⟨Lc10, hQ10, l10, y10, z10⟩, st10⟩ := X9.virtualBack hx (y := oM1) (z := oM1) hown (mvT hZ (ow7 hw)) (mvT hZ (ow8 hw)) (notFace_of_selects (args := #[]) (mvT hZ (ow10 hw))) (mvT hZ (ow10 hw)) (mvT hZ (ow9 hw)) (by decide) (backOf (W := 0) (rm2 l Z a0 hw [] c4 c1 c2 c4 h0 n0 O0 S_c1 S_c2 S_c4) hZ (ow11 hw) (ow5 hw) (by decide) (by decide)) q10a q10c (g := (mkF m 78 #[.val (.int z1), .val (.int (4 : Int32)), .val (.ref c4), .val (.int (1 : Int32)), .val (.int (0 : Int32)), .val (.int (0 : Int32)), .val (.int (1 : Int32))] [(.ref c4)])) rfl (by rw [hml]; rfl) (Steps.refl _) (argsL := []) (rest := []) (lenOf pd_1 rfl) rfl (by show 2 * 0 + _ ≤ _; exact Nat.le_of_eq rfl) (hb hby at_78) (fun _ _ => ⟨rfl, E9, (own_le rfl), (own_le rfl)⟩)
    dsimp only [Pt.U, Pt.locs, Pt.cells, Pt.slots] at X10 l10 y10 z10 st10 hQ10
    subst l10 y10 z10
    obtain ⟨hv10, N10q, E10⟩ := hQ10
    rw [own_is_yes (by simp)] at hv10
    subst hv10
    have N10 := Fr.app N9 N10q
    refine own_tr st10 ?_
    show own_Ends _ _ _ _ (T10.setTop (mkF m 81 #[.val (.int z1), .val (.int 4), .val (.ref c4), .val (.int 1), .val (.int 0), .val (.int 0), .val (.int 1)] [(.int 1)]))
    refine own_to (fun _ kont => XS.iload X10.here hx rfl (hb hby at_81) rfl kont) ?_
    show own_Ends _ _ _ _ (T10.setTop (mkF m 83 #[.val (.int z1), .val (.int 4), .val (.ref c4), .val (.int 1), .val (.int 0), .val (.int 0), .val (.int 1)] [(.int 1), (.int 1)]))
    refine own_to (fun _ kont => XS.icmpNo X10.here hx rfl (hb hby at_83) rfl (teq (by decide)).2 kont) ?_
    show own_Ends _ _ _ _ (T10.setTop (mkF m 86 #[.val (.int z1), .val (.int 4), .val (.ref c4), .val (.int 1), .val (.int 0), .val (.int 0), .val (.int 1)] []))
    refine own_to (fun _ kont => XS.iconst X10.here hx rfl (hb hby at_86) kont) ?_
    show own_Ends _ _ _ _ (T10.setTop (mkF m 87 #[.val (.int z1), .val (.int 4), .val (.ref c4), .val (.int 1), .val (.int 0), .val (.int 0), .val (.int 1)] [(.int 1)]))
    refine own_to (fun _ kont => XS.goto X10.here hx rfl (pc0 := 87) (pc' := 91) rfl (hb hby at_87) (by decide) (by decide) kont) ?_
    show own_Ends _ _ _ _ (T10.setTop (mkF m 91 #[.val (.int z1), .val (.int 4), .val (.ref c4), .val (.int 1), .val (.int 0), .val (.int 0), .val (.int 1)] [(.int 1)]))
    refine own_leave X10 (v := some (.int (1 : Int32))) (fun h => by rw [Bd.returns] at h; cases h) ?_ (by decide) (by decide) (fun fs hr => retN X10 hx (t := .boolean) Bd.returns (by simp) (hb hby at_91) hr)
    show Q_rm0 Z z1 c0 c1 c2 c3 c4 c5 c6 c7 h0 n0 _ T10.heap _
    rw [E10]
    exact ⟨rfl, N10⟩
  · skip
    show own_Ends _ _ _ _ (s₁.setTop (mkF m 5 #[.val (.int z1), .val (.int 5), .unset, .unset, .unset, .unset, .unset] []))
    refine own_to (fun _ kont => XS.iloadN X0.here hx rfl (hb hby at_5) rfl kont) ?_
    show own_Ends _ _ _ _ (s₁.setTop (mkF m 6 #[.val (.int z1), .val (.int 5), .unset, .unset, .unset, .unset, .unset] [(.int 5)]))
    obtain ⟨_, _, ⟨T11, L11, k11, n11⟩, -, X11, ⟨Lc11, hQ11, l11, y11, z11⟩, st11⟩ := Jvm.LawKit.callS X0 hx (y := oM0) hown (mvT hZ (ow0 hw)) (mvT hZ (ow1 hw)) (mvT hZ (ow2 hw)) (mvT hZ (ow3 hw)) (by decide) (backOf (W := 0) (rm1 l Z a0 hw [] (5 : Int32) c0 c1 c2 c3 c4 c5 c6 c7 h0 n0 O0 S_c0 S_c1 S_c2 S_c3 S_c4 S_c5 S_c6 S_c7) hZ (ow3 hw) (ow2 hw) (by decide) (by decide)) (g := (mkF m 6 #[.val (.int z1), .val (.int (5 : Int32)), .unset, .unset, .unset, .unset, .unset] [(.int (5 : Int32))])) rfl (by rw [hml]; rfl) (argsL := [(.int (5 : Int32))]) (rest := []) (lenOf pd_0 rfl) rfl (by show 2 * 0 + _ ≤ _; exact Nat.le_of_eq rfl) (hb hby at_6) (fun _ _ => ⟨rfl, e0, (own_le rfl), (own_le rfl)⟩)
    dsimp only [Pt.U, Pt.locs, Pt.cells, Pt.slots] at X11 l11 y11 z11 st11 hQ11
    subst l11 y11 z11
    obtain ⟨hv11, N11q, E11⟩ := hQ11
    rw [own_pick_5] at hv11
    subst hv11
    have N11 := Fr.app N0 N11q
    refine own_to st11 ?_
    show own_Ends _ _ _ _ (T11.setTop (mkF m 9 #[.val (.int z1), .val (.int 5), .unset, .unset, .unset, .unset, .unset] [(.ref c5)]))
    refine own_to (fun _ kont => XS.astoreN X11.here hx rfl (hb hby at_9) rfl rfl (l' := #[.val (.int z1), .val (.int (5 : Int32)), .val (.ref c5), .unset, .unset, .unset, .unset]) rfl kont) ?_
    show own_Ends _ _ _ _ (T11.setTop (mkF m 10 #[.val (.int z1), .val (.int 5), .val (.ref c5), .unset, .unset, .unset, .unset] []))
    refine own_to (fun _ kont => XS.iloadN X11.here hx rfl (hb hby at_10) rfl kont) ?_
    show own_Ends _ _ _ _ (T11.setTop (mkF m 11 #[.val (.int z1), .val (.int 5), .val (.ref c5), .unset, .unset, .unset, .unset] [(.int 5)]))
    refine own_to (fun _ kont => XS.ifNo X11.here hx rfl (hb hby at_11) rfl ((if0 _ _).trans (feq (by decide)).1) kont) ?_
    show own_Ends _ _ _ _ (T11.setTop (mkF m 14 #[.val (.int z1), .val (.int 5), .val (.ref c5), .unset, .unset, .unset, .unset] []))
    refine own_to (fun _ kont => XS.iconst X11.here hx rfl (hb hby at_14) kont) ?_
    show own_Ends _ _ _ _ (T11.setTop (mkF m 15 #[.val (.int z1), .val (.int 5), .val (.ref c5), .unset, .unset, .unset, .unset] [(.int 1)]))
    refine own_to (fun _ kont => XS.goto X11.here hx rfl (pc0 := 15) (pc' := 19) rfl (hb hby at_15) (by decide) (by decide) kont) ?_
    show own_Ends _ _ _ _ (T11.setTop (mkF m 19 #[.val (.int z1), .val (.int 5), .val (.ref c5), .unset, .unset, .unset, .unset] [(.int 1)]))
    refine own_to (fun _ kont => XS.istoreN X11.here hx rfl (hb hby at_19) rfl (l' := #[.val (.int z1), .val (.int (5 : Int32)), .val (.ref c5), .val (.int (1 : Int32)), .unset, .unset, .unset]) rfl kont) ?_
    show own_Ends _ _ _ _ (T11.setTop (mkF m 20 #[.val (.int z1), .val (.int 5), .val (.ref c5), .val (.int 1), .unset, .unset, .unset] []))
    refine own_to (fun _ kont => XS.iloadN X11.here hx rfl (hb hby at_20) rfl kont) ?_
    show own_Ends _ _ _ _ (T11.setTop (mkF m 21 #[.val (.int z1), .val (.int 5), .val (.ref c5), .val (.int 1), .unset, .unset, .unset] [(.int 5)]))
    refine own_to (fun _ kont => XS.iconst X11.here hx rfl (hb hby at_21) kont) ?_
    show own_Ends _ _ _ _ (T11.setTop (mkF m 22 #[.val (.int z1), .val (.int 5), .val (.ref c5), .val (.int 1), .unset, .unset, .unset] [(.int 3), (.int 5)]))
    refine own_to (fun _ kont => XS.icmpNo X11.here hx rfl (hb hby at_22) rfl (feq (by decide)).1 kont) ?_
    show own_Ends _ _ _ _ (T11.setTop (mkF m 25 #[.val (.int z1), .val (.int 5), .val (.ref c5), .val (.int 1), .unset, .unset, .unset] []))
    refine own_to (fun _ kont => XS.iloadN X11.here hx rfl (hb hby at_25) rfl kont) ?_
    show own_Ends _ _ _ _ (T11.setTop (mkF m 26 #[.val (.int z1), .val (.int 5), .val (.ref c5), .val (.int 1), .unset, .unset, .unset] [(.int 5)]))
    refine own_to (fun _ kont => XS.iconst X11.here hx rfl (hb hby at_26) kont) ?_
    show own_Ends _ _ _ _ (T11.setTop (mkF m 27 #[.val (.int z1), .val (.int 5), .val (.ref c5), .val (.int 1), .unset, .unset, .unset] [(.int 5), (.int 5)]))
    refine own_to (fun _ kont => XS.icmpNo X11.here hx rfl (hb hby at_27) rfl (teq (by decide)).2 kont) ?_
    show own_Ends _ _ _ _ (T11.setTop (mkF m 30 #[.val (.int z1), .val (.int 5), .val (.ref c5), .val (.int 1), .unset, .unset, .unset] []))
    refine own_to (fun _ kont => XS.iconst X11.here hx rfl (hb hby at_30) kont) ?_
    show own_Ends _ _ _ _ (T11.setTop (mkF m 31 #[.val (.int z1), .val (.int 5), .val (.ref c5), .val (.int 1), .unset, .unset, .unset] [(.int 1)]))
    refine own_to (fun _ kont => XS.goto X11.here hx rfl (pc0 := 31) (pc' := 35) rfl (hb hby at_31) (by decide) (by decide) kont) ?_
    show own_Ends _ _ _ _ (T11.setTop (mkF m 35 #[.val (.int z1), .val (.int 5), .val (.ref c5), .val (.int 1), .unset, .unset, .unset] [(.int 1)]))
    refine own_to (fun _ kont => XS.istore X11.here hx rfl (hb hby at_35) rfl (l' := #[.val (.int z1), .val (.int (5 : Int32)), .val (.ref c5), .val (.int (1 : Int32)), .val (.int (1 : Int32)), .unset, .unset]) rfl kont) ?_
    show own_Ends _ _ _ _ (T11.setTop (mkF m 37 #[.val (.int z1), .val (.int 5), .val (.ref c5), .val (.int 1), .val (.int 1), .unset, .unset] []))
    refine own_to (fun _ kont => XS.iloadN X11.here hx rfl (hb hby at_37) rfl kont) ?_
    show own_Ends _ _ _ _ (T11.setTop (mkF m 38 #[.val (.int z1), .val (.int 5), .val (.ref c5), .val (.int 1), .val (.int 1), .unset, .unset] [(.int 5)]))
    refine own_to (fun _ kont => XS.bipush X11.here hx rfl (hb hby at_38) kont) ?_
    show own_Ends _ _ _ _ (T11.setTop (mkF m 40 #[.val (.int z1), .val (.int 5), .val (.ref c5), .val (.int 1), .val (.int 1), .unset, .unset] [(.int 6), (.int 5)]))
    refine own_to (fun _ kont => XS.icmpNo X11.here hx rfl (hb hby at_40) rfl (feq (by decide)).1 kont) ?_
    show own_Ends _ _ _ _ (T11.setTop (mkF m 43 #[.val (.int z1), .val (.int 5), .val (.ref c5), .val (.int 1), .val (.int 1), .unset, .unset] []))
    refine own_to (fun _ kont => XS.iloadN X11.here hx rfl (hb hby at_43) rfl kont) ?_
    show own_Ends _ _ _ _ (T11.setTop (mkF m 44 #[.val (.int z1), .val (.int 5), .val (.ref c5), .val (.int 1), .val (.int 1), .unset, .unset] [(.int 5)]))
    refine own_to (fun _ kont => XS.bipush X11.here hx rfl (hb hby at_44) kont) ?_
    show own_Ends _ _ _ _ (T11.setTop (mkF m 46 #[.val (.int z1), .val (.int 5), .val (.ref c5), .val (.int 1), .val (.int 1), .unset, .unset] [(.int 7), (.int 5)]))
    refine own_to (fun _ kont => XS.icmpYes X11.here hx rfl (pc0 := 46) (pc' := 53) rfl (hb hby at_46) rfl (feq (by decide)).2 (by decide) (by decide) kont) ?_
    show own_Ends _ _ _ _ (T11.setTop (mkF m 53 #[.val (.int z1), .val (.int 5), .val (.ref c5), .val (.int 1), .val (.int 1), .unset, .unset] []))
    refine own_to (fun _ kont => XS.iconst X11.here hx rfl (hb hby at_53) kont) ?_
    show own_Ends _ _ _ _ (T11.setTop (mkF m 54 #[.val (.int z1), .val (.int 5), .val (.ref c5), .val (.int 1), .val (.int 1), .unset, .unset] [(.int 0)]))
    refine own_to (fun _ kont => XS.istore X11.here hx rfl (hb hby at_54) rfl (l' := #[.val (.int z1), .val (.int (5 : Int32)), .val (.ref c5), .val (.int (1 : Int32)), .val (.int (1 : Int32)), .val (.int (0 : Int32)), .unset]) rfl kont) ?_
    show own_Ends _ _ _ _ (T11.setTop (mkF m 56 #[.val (.int z1), .val (.int 5), .val (.ref c5), .val (.int 1), .val (.int 1), .val (.int 0), .unset] []))
    refine own_to (fun _ kont => XS.iloadN X11.here hx rfl (hb hby at_56) rfl kont) ?_
    show own_Ends _ _ _ _ (T11.setTop (mkF m 57 #[.val (.int z1), .val (.int 5), .val (.ref c5), .val (.int 1), .val (.int 1), .val (.int 0), .unset] [(.int 1)]))
    refine own_to (fun _ kont => XS.ifNo X11.here hx rfl (hb hby at_57) rfl ((if0 _ _).trans (feq (by decide)).1) kont) ?_
    show own_Ends _ _ _ _ (T11.setTop (mkF m 60 #[.val (.int z1), .val (.int 5), .val (.ref c5), .val (.int 1), .val (.int 1), .val (.int 0), .unset] []))
    refine own_to (fun _ kont => XS.iload X11.here hx rfl (hb hby at_60) rfl kont) ?_
    show own_Ends _ _ _ _ (T11.setTop (mkF m 62 #[.val (.int z1), .val (.int 5), .val (.ref c5), .val (.int 1), .val (.int 1), .val (.int 0), .unset] [(.int 1)]))
    refine own_to (fun _ kont => XS.ifYes X11.here hx rfl (pc0 := 62) (pc' := 74) rfl (hb hby at_62) rfl ((if0 _ _).trans (feq (by decide)).2) (by decide) (by decide) kont) ?_
    show own_Ends _ _ _ _ (T11.setTop (mkF m 74 #[.val (.int z1), .val (.int 5), .val (.ref c5), .val (.int 1), .val (.int 1), .val (.int 0), .unset] []))
    refine own_to (fun _ kont => XS.iconst X11.here hx rfl (hb hby at_74) kont) ?_
    show own_Ends _ _ _ _ (T11.setTop (mkF m 75 #[.val (.int z1), .val (.int 5), .val (.ref c5), .val (.int 1), .val (.int 1), .val (.int 0), .unset] [(.int 0)]))
    refine own_to (fun _ kont => XS.istore X11.here hx rfl (hb hby at_75) rfl (l' := #[.val (.int z1), .val (.int (5 : Int32)), .val (.ref c5), .val (.int (1 : Int32)), .val (.int (1 : Int32)), .val (.int (0 : Int32)), .val (.int (0 : Int32))]) rfl kont) ?_
    show own_Ends _ _ _ _ (T11.setTop (mkF m 77 #[.val (.int z1), .val (.int 5), .val (.ref c5), .val (.int 1), .val (.int 1), .val (.int 0), .val (.int 0)] []))
    refine own_to (fun _ kont => XS.aloadN X11.here hx rfl (hb hby at_77) rfl rfl kont) ?_
    show own_Ends _ _ _ _ (T11.setTop (mkF m 78 #[.val (.int z1), .val (.int 5), .val (.ref c5), .val (.int 1), .val (.int 1), .val (.int 0), .val (.int 0)] [(.ref c5)]))
    obtain ⟨cq12, kq12, q12a, q12b, q12c⟩ := isOf hZ E11 (E_c5.ext O0.2)
    obtain ⟨_, _, ⟨T12, L12, k12, n12⟩, -, X12, ⟨Lc12, hQ12, l12, y12, z12⟩, st12⟩ := X11.virtualBack hx (y := oM1) (z := oM1) hown (mvT hZ (ow7 hw)) (mvT hZ (ow8 hw)) (notFace_of_selects (args := #[]) (mvT hZ (ow10 hw))) (mvT hZ (ow10 hw)) (mvT hZ (ow9 hw)) (by decide) (backOf (W := 0) (rm2 l Z a0 hw [] c5 c1 c2 c4 h0 n0 O0 S_c1 S_c2 S_c4) hZ (ow11 hw) (ow5 hw) (by decide) (by decide)) q12a q12c (g := (mkF m 78 #[.val (.int z1), .val (.int (5 : Int32)), .val (.ref c5), .val (.int (1 : Int32)), .val (.int (1 : Int32)), .val (.int (0 : Int32)), .val (.int (0 : Int32))] [(.ref c5)])) rfl (by rw [hml]; rfl) (Steps.refl _) (argsL := []) (rest := []) (lenOf pd_1 rfl) rfl (by show 2 * 0 + _ ≤ _; exact Nat.le_of_eq rfl) (hb hby at_78) (fun _ _ => ⟨rfl, E11, (own_le rfl), (own_le rfl)⟩)
    dsimp only [Pt.U, Pt.locs, Pt.cells, Pt.slots] at X12 l12 y12 z12 st12 hQ12
    subst l12 y12 z12
    obtain ⟨hv12, N12q, E12⟩ := hQ12
    rw [own_is_no (Fld.ne F_c5 F_c1 (own_intne (by decide))) (Fld.ne F_c5 F_c2 (own_intne (by decide))) (Fld.ne F_c5 F_c4 (own_intne (by decide)))] at hv12
    subst hv12
    have N12 := Fr.app N11 N12q
    refine own_tr st12 ?_
    show own_Ends _ _ _ _ (T12.setTop (mkF m 81 #[.val (.int z1), .val (.int 5), .val (.ref c5), .val (.int 1), .val (.int 1), .val (.int 0), .val (.int 0)] [(.int 0)]))
    refine own_to (fun _ kont => XS.iload X12.here hx rfl (hb hby at_81) rfl kont) ?_
    show own_Ends _ _ _ _ (T12.setTop (mkF m 83 #[.val (.int z1), .val (.int 5), .val (.ref c5), .val (.int 1), .val (.int 1), .val (.int 0), .val (.int 0)] [(.int 0), (.int 0)]))
    refine own_to (fun _ kont => XS.icmpNo X12.here hx rfl (hb hby at_83) rfl (teq (by decide)).2 kont) ?_
    show own_Ends _ _ _ _ (T12.setTop (mkF m 86 #[.val (.int z1), .val (.int 5), .val (.ref c5), .val (.int 1), .val (.int 1), .val (.int 0), .val (.int 0)] []))
    refine own_to (fun _ kont => XS.iconst X12.here hx rfl (hb hby at_86) kont) ?_
    show own_Ends _ _ _ _ (T12.setTop (mkF m 87 #[.val (.int z1), .val (.int 5), .val (.ref c5), .val (.int 1), .val (.int 1), .val (.int 0), .val (.int 0)] [(.int 1)]))
    refine own_to (fun _ kont => XS.goto X12.here hx rfl (pc0 := 87) (pc' := 91) rfl (hb hby at_87) (by decide) (by decide) kont) ?_
    show own_Ends _ _ _ _ (T12.setTop (mkF m 91 #[.val (.int z1), .val (.int 5), .val (.ref c5), .val (.int 1), .val (.int 1), .val (.int 0), .val (.int 0)] [(.int 1)]))
    refine own_leave X12 (v := some (.int (1 : Int32))) (fun h => by rw [Bd.returns] at h; cases h) ?_ (by decide) (by decide) (fun fs hr => retN X12 hx (t := .boolean) Bd.returns (by simp) (hb hby at_91) hr)
    show Q_rm0 Z z1 c0 c1 c2 c3 c4 c5 c6 c7 h0 n0 _ T12.heap _
    rw [E12]
    exact ⟨rfl, N12⟩
  · skip
    show own_Ends _ _ _ _ (s₁.setTop (mkF m 5 #[.val (.int z1), .val (.int 6), .unset, .unset, .unset, .unset, .unset] []))
    refine own_to (fun _ kont => XS.iloadN X0.here hx rfl (hb hby at_5) rfl kont) ?_
    show own_Ends _ _ _ _ (s₁.setTop (mkF m 6 #[.val (.int z1), .val (.int 6), .unset, .unset, .unset, .unset, .unset] [(.int 6)]))
    obtain ⟨_, _, ⟨T13, L13, k13, n13⟩, -, X13, ⟨Lc13, hQ13, l13, y13, z13⟩, st13⟩ := Jvm.LawKit.callS X0 hx (y := oM0) hown (mvT hZ (ow0 hw)) (mvT hZ (ow1 hw)) (mvT hZ (ow2 hw)) (mvT hZ (ow3 hw)) (by decide) (backOf (W := 0) (rm1 l Z a0 hw [] (6 : Int32) c0 c1 c2 c3 c4 c5 c6 c7 h0 n0 O0 S_c0 S_c1 S_c2 S_c3 S_c4 S_c5 S_c6 S_c7) hZ (ow3 hw) (ow2 hw) (by decide) (by decide)) (g := (mkF m 6 #[.val (.int z1), .val (.int (6 : Int32)), .unset, .unset, .unset, .unset, .unset] [(.int (6 : Int32))])) rfl (by rw [hml]; rfl) (argsL := [(.int (6 : Int32))]) (rest := []) (lenOf pd_0 rfl) rfl (by show 2 * 0 + _ ≤ _; exact Nat.le_of_eq rfl) (hb hby at_6) (fun _ _ => ⟨rfl, e0, (own_le rfl), (own_le rfl)⟩)
    dsimp only [Pt.U, Pt.locs, Pt.cells, Pt.slots] at X13 l13 y13 z13 st13 hQ13
    subst l13 y13 z13
    obtain ⟨hv13, N13q, E13⟩ := hQ13
    rw [own_pick_6] at hv13
    subst hv13
    have N13 := Fr.app N0 N13q
    refine own_to st13 ?_
    show own_Ends _ _ _ _ (T13.setTop (mkF m 9 #[.val (.int z1), .val (.int 6), .unset, .unset, .unset, .unset, .unset] [(.ref c6)]))
    refine own_to (fun _ kont => XS.astoreN X13.here hx rfl (hb hby at_9) rfl rfl (l' := #[.val (.int z1), .val (.int (6 : Int32)), .val (.ref c6), .unset, .unset, .unset, .unset]) rfl kont) ?_
    show own_Ends _ _ _ _ (T13.setTop (mkF m 10 #[.val (.int z1), .val (.int 6), .val (.ref c6), .unset, .unset, .unset, .unset] []))
    refine own_to (fun _ kont => XS.iloadN X13.here hx rfl (hb hby at_10) rfl kont) ?_
    show own_Ends _ _ _ _ (T13.setTop (mkF m 11 #[.val (.int z1), .val (.int 6), .val (.ref c6), .unset, .unset, .unset, .unset] [(.int 6)]))
    refine own_to (fun _ kont => XS.ifNo X13.here hx rfl (hb hby at_11) rfl ((if0 _ _).trans (feq (by decide)).1) kont) ?_
    show own_Ends _ _ _ _ (T13.setTop (mkF m 14 #[.val (.int z1), .val (.int 6), .val (.ref c6), .unset, .unset, .unset, .unset] []))
    refine own_to (fun _ kont => XS.iconst X13.here hx rfl (hb hby at_14) kont) ?_
    show own_Ends _ _ _ _ (T13.setTop (mkF m 15 #[.val (.int z1), .val (.int 6), .val (.ref c6), .unset, .unset, .unset, .unset] [(.int 1)]))
    refine own_to (fun _ kont => XS.goto X13.here hx rfl (pc0 := 15) (pc' := 19) rfl (hb hby at_15) (by decide) (by decide) kont) ?_
    show own_Ends _ _ _ _ (T13.setTop (mkF m 19 #[.val (.int z1), .val (.int 6), .val (.ref c6), .unset, .unset, .unset, .unset] [(.int 1)]))
    refine own_to (fun _ kont => XS.istoreN X13.here hx rfl (hb hby at_19) rfl (l' := #[.val (.int z1), .val (.int (6 : Int32)), .val (.ref c6), .val (.int (1 : Int32)), .unset, .unset, .unset]) rfl kont) ?_
    show own_Ends _ _ _ _ (T13.setTop (mkF m 20 #[.val (.int z1), .val (.int 6), .val (.ref c6), .val (.int 1), .unset, .unset, .unset] []))
    refine own_to (fun _ kont => XS.iloadN X13.here hx rfl (hb hby at_20) rfl kont) ?_
    show own_Ends _ _ _ _ (T13.setTop (mkF m 21 #[.val (.int z1), .val (.int 6), .val (.ref c6), .val (.int 1), .unset, .unset, .unset] [(.int 6)]))
    refine own_to (fun _ kont => XS.iconst X13.here hx rfl (hb hby at_21) kont) ?_
    show own_Ends _ _ _ _ (T13.setTop (mkF m 22 #[.val (.int z1), .val (.int 6), .val (.ref c6), .val (.int 1), .unset, .unset, .unset] [(.int 3), (.int 6)]))
    refine own_to (fun _ kont => XS.icmpNo X13.here hx rfl (hb hby at_22) rfl (feq (by decide)).1 kont) ?_
    show own_Ends _ _ _ _ (T13.setTop (mkF m 25 #[.val (.int z1), .val (.int 6), .val (.ref c6), .val (.int 1), .unset, .unset, .unset] []))
    refine own_to (fun _ kont => XS.iloadN X13.here hx rfl (hb hby at_25) rfl kont) ?_
    show own_Ends _ _ _ _ (T13.setTop (mkF m 26 #[.val (.int z1), .val (.int 6), .val (.ref c6), .val (.int 1), .unset, .unset, .unset] [(.int 6)]))
    refine own_to (fun _ kont => XS.iconst X13.here hx rfl (hb hby at_26) kont) ?_
    show own_Ends _ _ _ _ (T13.setTop (mkF m 27 #[.val (.int z1), .val (.int 6), .val (.ref c6), .val (.int 1), .unset, .unset, .unset] [(.int 5), (.int 6)]))
    refine own_to (fun _ kont => XS.icmpYes X13.here hx rfl (pc0 := 27) (pc' := 34) rfl (hb hby at_27) rfl (feq (by decide)).2 (by decide) (by decide) kont) ?_
    show own_Ends _ _ _ _ (T13.setTop (mkF m 34 #[.val (.int z1), .val (.int 6), .val (.ref c6), .val (.int 1), .unset, .unset, .unset] []))
    refine own_to (fun _ kont => XS.iconst X13.here hx rfl (hb hby at_34) kont) ?_
    show own_Ends _ _ _ _ (T13.setTop (mkF m 35 #[.val (.int z1), .val (.int 6), .val (.ref c6), .val (.int 1), .unset, .unset, .unset] [(.int 0)]))
    refine own_to (fun _ kont => XS.istore X13.here hx rfl (hb hby at_35) rfl (l' := #[.val (.int z1), .val (.int (6 : Int32)), .val (.ref c6), .val (.int (1 : Int32)), .val (.int (0 : Int32)), .unset, .unset]) rfl kont) ?_
    show own_Ends _ _ _ _ (T13.setTop (mkF m 37 #[.val (.int z1), .val (.int 6), .val (.ref c6), .val (.int 1), .val (.int 0), .unset, .unset] []))
    refine own_to (fun _ kont => XS.iloadN X13.here hx rfl (hb hby at_37) rfl kont) ?_
    show own_Ends _ _ _ _ (T13.setTop (mkF m 38 #[.val (.int z1), .val (.int 6), .val (.ref c6), .val (.int 1), .val (.int 0), .unset, .unset] [(.int 6)]))
    refine own_to (fun _ kont => XS.bipush X13.here hx rfl (hb hby at_38) kont) ?_
    show own_Ends _ _ _ _ (T13.setTop (mkF m 40 #[.val (.int z1), .val (.int 6), .val (.ref c6), .val (.int 1), .val (.int 0), .unset, .unset] [(.int 6), (.int 6)]))
    refine own_to (fun _ kont => XS.icmpYes X13.here hx rfl (pc0 := 40) (pc' := 49) rfl (hb hby at_40) rfl (teq (by decide)).1 (by decide) (by decide) kont) ?_
    show own_Ends _ _ _ _ (T13.setTop (mkF m 49 #[.val (.int z1), .val (.int 6), .val (.ref c6), .val (.int 1), .val (.int 0), .unset, .unset] []))
    refine own_to (fun _ kont => XS.iconst X13.here hx rfl (hb hby at_49) kont) ?_
    show own_Ends _ _ _ _ (T13.setTop (mkF m 50 #[.val (.int z1), .val (.int 6), .val (.ref c6), .val (.int 1), .val (.int 0), .unset, .unset] [(.int 1)]))
    refine own_to (fun _ kont => XS.goto X13.here hx rfl (pc0 := 50) (pc' := 54) rfl (hb hby at_50) (by decide) (by decide) kont) ?_
    show own_Ends _ _ _ _ (T13.setTop (mkF m 54 #[.val (.int z1), .val (.int 6), .val (.ref c6), .val (.int 1), .val (.int 0), .unset, .unset] [(.int 1)]))
    refine own_to (fun _ kont => XS.istore X13.here hx rfl (hb hby at_54) rfl (l' := #[.val (.int z1), .val (.int (6 : Int32)), .val (.ref c6), .val (.int (1 : Int32)), .val (.int (0 : Int32)), .val (.int (1 : Int32)), .unset]) rfl kont) ?_
    show own_Ends _ _ _ _ (T13.setTop (mkF m 56 #[.val (.int z1), .val (.int 6), .val (.ref c6), .val (.int 1), .val (.int 0), .val (.int 1), .unset] []))
    refine own_to (fun _ kont => XS.iloadN X13.here hx rfl (hb hby at_56) rfl kont) ?_
    show own_Ends _ _ _ _ (T13.setTop (mkF m 57 #[.val (.int z1), .val (.int 6), .val (.ref c6), .val (.int 1), .val (.int 0), .val (.int 1), .unset] [(.int 1)]))
    refine own_to (fun _ kont => XS.ifNo X13.here hx rfl (hb hby at_57) rfl ((if0 _ _).trans (feq (by decide)).1) kont) ?_
    show own_Ends _ _ _ _ (T13.setTop (mkF m 60 #[.val (.int z1), .val (.int 6), .val (.ref c6), .val (.int 1), .val (.int 0), .val (.int 1), .unset] []))
    refine own_to (fun _ kont => XS.iload X13.here hx rfl (hb hby at_60) rfl kont) ?_
    show own_Ends _ _ _ _ (T13.setTop (mkF m 62 #[.val (.int z1), .val (.int 6), .val (.ref c6), .val (.int 1), .val (.int 0), .val (.int 1), .unset] [(.int 0)]))
    refine own_to (fun _ kont => XS.ifNo X13.here hx rfl (hb hby at_62) rfl ((if0 _ _).trans (teq (by decide)).2) kont) ?_
    show own_Ends _ _ _ _ (T13.setTop (mkF m 65 #[.val (.int z1), .val (.int 6), .val (.ref c6), .val (.int 1), .val (.int 0), .val (.int 1), .unset] []))
    refine own_to (fun _ kont => XS.iload X13.here hx rfl (hb hby at_65) rfl kont) ?_
    show own_Ends _ _ _ _ (T13.setTop (mkF m 67 #[.val (.int z1), .val (.int 6), .val (.ref c6), .val (.int 1), .val (.int 0), .val (.int 1), .unset] [(.int 1)]))
    refine own_to (fun _ kont => XS.ifYes X13.here hx rfl (pc0 := 67) (pc' := 74) rfl (hb hby at_67) rfl ((if0 _ _).trans (feq (by decide)).2) (by decide) (by decide) kont) ?_
    show own_Ends _ _ _ _ (T13.setTop (mkF m 74 #[.val (.int z1), .val (.int 6), .val (.ref c6), .val (.int 1), .val (.int 0), .val (.int 1), .unset] []))
    refine own_to (fun _ kont => XS.iconst X13.here hx rfl (hb hby at_74) kont) ?_
    show own_Ends _ _ _ _ (T13.setTop (mkF m 75 #[.val (.int z1), .val (.int 6), .val (.ref c6), .val (.int 1), .val (.int 0), .val (.int 1), .unset] [(.int 0)]))
    refine own_to (fun _ kont => XS.istore X13.here hx rfl (hb hby at_75) rfl (l' := #[.val (.int z1), .val (.int (6 : Int32)), .val (.ref c6), .val (.int (1 : Int32)), .val (.int (0 : Int32)), .val (.int (1 : Int32)), .val (.int (0 : Int32))]) rfl kont) ?_
    show own_Ends _ _ _ _ (T13.setTop (mkF m 77 #[.val (.int z1), .val (.int 6), .val (.ref c6), .val (.int 1), .val (.int 0), .val (.int 1), .val (.int 0)] []))
    refine own_to (fun _ kont => XS.aloadN X13.here hx rfl (hb hby at_77) rfl rfl kont) ?_
    show own_Ends _ _ _ _ (T13.setTop (mkF m 78 #[.val (.int z1), .val (.int 6), .val (.ref c6), .val (.int 1), .val (.int 0), .val (.int 1), .val (.int 0)] [(.ref c6)]))
    obtain ⟨cq14, kq14, q14a, q14b, q14c⟩ := isOf hZ E13 (E_c6.ext O0.2)
    obtain ⟨_, _, ⟨T14, L14, k14, n14⟩, -, X14, ⟨Lc14, hQ14, l14, y14, z14⟩, st14⟩ := X13.virtualBack hx (y := oM1) (z := oM1) hown (mvT hZ (ow7 hw)) (mvT hZ (ow8 hw)) (notFace_of_selects (args := #[]) (mvT hZ (ow10 hw))) (mvT hZ (ow10 hw)) (mvT hZ (ow9 hw)) (by decide) (backOf (W := 0) (rm2 l Z a0 hw [] c6 c1 c2 c4 h0 n0 O0 S_c1 S_c2 S_c4) hZ (ow11 hw) (ow5 hw) (by decide) (by decide)) q14a q14c (g := (mkF m 78 #[.val (.int z1), .val (.int (6 : Int32)), .val (.ref c6), .val (.int (1 : Int32)), .val (.int (0 : Int32)), .val (.int (1 : Int32)), .val (.int (0 : Int32))] [(.ref c6)])) rfl (by rw [hml]; rfl) (Steps.refl _) (argsL := []) (rest := []) (lenOf pd_1 rfl) rfl (by show 2 * 0 + _ ≤ _; exact Nat.le_of_eq rfl) (hb hby at_78) (fun _ _ => ⟨rfl, E13, (own_le rfl), (own_le rfl)⟩)
    dsimp only [Pt.U, Pt.locs, Pt.cells, Pt.slots] at X14 l14 y14 z14 st14 hQ14
    subst l14 y14 z14
    obtain ⟨hv14, N14q, E14⟩ := hQ14
    rw [own_is_no (Fld.ne F_c6 F_c1 (own_intne (by decide))) (Fld.ne F_c6 F_c2 (own_intne (by decide))) (Fld.ne F_c6 F_c4 (own_intne (by decide)))] at hv14
    subst hv14
    have N14 := Fr.app N13 N14q
    refine own_tr st14 ?_
    show own_Ends _ _ _ _ (T14.setTop (mkF m 81 #[.val (.int z1), .val (.int 6), .val (.ref c6), .val (.int 1), .val (.int 0), .val (.int 1), .val (.int 0)] [(.int 0)]))
    refine own_to (fun _ kont => XS.iload X14.here hx rfl (hb hby at_81) rfl kont) ?_
    show own_Ends _ _ _ _ (T14.setTop (mkF m 83 #[.val (.int z1), .val (.int 6), .val (.ref c6), .val (.int 1), .val (.int 0), .val (.int 1), .val (.int 0)] [(.int 0), (.int 0)]))
    refine own_to (fun _ kont => XS.icmpNo X14.here hx rfl (hb hby at_83) rfl (teq (by decide)).2 kont) ?_
    show own_Ends _ _ _ _ (T14.setTop (mkF m 86 #[.val (.int z1), .val (.int 6), .val (.ref c6), .val (.int 1), .val (.int 0), .val (.int 1), .val (.int 0)] []))
    refine own_to (fun _ kont => XS.iconst X14.here hx rfl (hb hby at_86) kont) ?_
    show own_Ends _ _ _ _ (T14.setTop (mkF m 87 #[.val (.int z1), .val (.int 6), .val (.ref c6), .val (.int 1), .val (.int 0), .val (.int 1), .val (.int 0)] [(.int 1)]))
    refine own_to (fun _ kont => XS.goto X14.here hx rfl (pc0 := 87) (pc' := 91) rfl (hb hby at_87) (by decide) (by decide) kont) ?_
    show own_Ends _ _ _ _ (T14.setTop (mkF m 91 #[.val (.int z1), .val (.int 6), .val (.ref c6), .val (.int 1), .val (.int 0), .val (.int 1), .val (.int 0)] [(.int 1)]))
    refine own_leave X14 (v := some (.int (1 : Int32))) (fun h => by rw [Bd.returns] at h; cases h) ?_ (by decide) (by decide) (fun fs hr => retN X14 hx (t := .boolean) Bd.returns (by simp) (hb hby at_91) hr)
    show Q_rm0 Z z1 c0 c1 c2 c3 c4 c5 c6 c7 h0 n0 _ T14.heap _
    rw [E14]
    exact ⟨rfl, N14⟩
  · skip
    show own_Ends _ _ _ _ (s₁.setTop (mkF m 5 #[.val (.int z1), .val (.int 7), .unset, .unset, .unset, .unset, .unset] []))
    refine own_to (fun _ kont => XS.iloadN X0.here hx rfl (hb hby at_5) rfl kont) ?_
    show own_Ends _ _ _ _ (s₁.setTop (mkF m 6 #[.val (.int z1), .val (.int 7), .unset, .unset, .unset, .unset, .unset] [(.int 7)]))
    obtain ⟨_, _, ⟨T15, L15, k15, n15⟩, -, X15, ⟨Lc15, hQ15, l15, y15, z15⟩, st15⟩ := Jvm.LawKit.callS X0 hx (y := oM0) hown (mvT hZ (ow0 hw)) (mvT hZ (ow1 hw)) (mvT hZ (ow2 hw)) (mvT hZ (ow3 hw)) (by decide) (backOf (W := 0) (rm1 l Z a0 hw [] (7 : Int32) c0 c1 c2 c3 c4 c5 c6 c7 h0 n0 O0 S_c0 S_c1 S_c2 S_c3 S_c4 S_c5 S_c6 S_c7) hZ (ow3 hw) (ow2 hw) (by decide) (by decide)) (g := (mkF m 6 #[.val (.int z1), .val (.int (7 : Int32)), .unset, .unset, .unset, .unset, .unset] [(.int (7 : Int32))])) rfl (by rw [hml]; rfl) (argsL := [(.int (7 : Int32))]) (rest := []) (lenOf pd_0 rfl) rfl (by show 2 * 0 + _ ≤ _; exact Nat.le_of_eq rfl) (hb hby at_6) (fun _ _ => ⟨rfl, e0, (own_le rfl), (own_le rfl)⟩)
    dsimp only [Pt.U, Pt.locs, Pt.cells, Pt.slots] at X15 l15 y15 z15 st15 hQ15
    subst l15 y15 z15
    obtain ⟨hv15, N15q, E15⟩ := hQ15
    rw [own_pick_7] at hv15
    subst hv15
    have N15 := Fr.app N0 N15q
    refine own_to st15 ?_
    show own_Ends _ _ _ _ (T15.setTop (mkF m 9 #[.val (.int z1), .val (.int 7), .unset, .unset, .unset, .unset, .unset] [(.ref c7)]))
    refine own_to (fun _ kont => XS.astoreN X15.here hx rfl (hb hby at_9) rfl rfl (l' := #[.val (.int z1), .val (.int (7 : Int32)), .val (.ref c7), .unset, .unset, .unset, .unset]) rfl kont) ?_
    show own_Ends _ _ _ _ (T15.setTop (mkF m 10 #[.val (.int z1), .val (.int 7), .val (.ref c7), .unset, .unset, .unset, .unset] []))
    refine own_to (fun _ kont => XS.iloadN X15.here hx rfl (hb hby at_10) rfl kont) ?_
    show own_Ends _ _ _ _ (T15.setTop (mkF m 11 #[.val (.int z1), .val (.int 7), .val (.ref c7), .unset, .unset, .unset, .unset] [(.int 7)]))
    refine own_to (fun _ kont => XS.ifNo X15.here hx rfl (hb hby at_11) rfl ((if0 _ _).trans (feq (by decide)).1) kont) ?_
    show own_Ends _ _ _ _ (T15.setTop (mkF m 14 #[.val (.int z1), .val (.int 7), .val (.ref c7), .unset, .unset, .unset, .unset] []))
    refine own_to (fun _ kont => XS.iconst X15.here hx rfl (hb hby at_14) kont) ?_
    show own_Ends _ _ _ _ (T15.setTop (mkF m 15 #[.val (.int z1), .val (.int 7), .val (.ref c7), .unset, .unset, .unset, .unset] [(.int 1)]))
    refine own_to (fun _ kont => XS.goto X15.here hx rfl (pc0 := 15) (pc' := 19) rfl (hb hby at_15) (by decide) (by decide) kont) ?_
    show own_Ends _ _ _ _ (T15.setTop (mkF m 19 #[.val (.int z1), .val (.int 7), .val (.ref c7), .unset, .unset, .unset, .unset] [(.int 1)]))
    refine own_to (fun _ kont => XS.istoreN X15.here hx rfl (hb hby at_19) rfl (l' := #[.val (.int z1), .val (.int (7 : Int32)), .val (.ref c7), .val (.int (1 : Int32)), .unset, .unset, .unset]) rfl kont) ?_
    show own_Ends _ _ _ _ (T15.setTop (mkF m 20 #[.val (.int z1), .val (.int 7), .val (.ref c7), .val (.int 1), .unset, .unset, .unset] []))
    refine own_to (fun _ kont => XS.iloadN X15.here hx rfl (hb hby at_20) rfl kont) ?_
    show own_Ends _ _ _ _ (T15.setTop (mkF m 21 #[.val (.int z1), .val (.int 7), .val (.ref c7), .val (.int 1), .unset, .unset, .unset] [(.int 7)]))
    refine own_to (fun _ kont => XS.iconst X15.here hx rfl (hb hby at_21) kont) ?_
    show own_Ends _ _ _ _ (T15.setTop (mkF m 22 #[.val (.int z1), .val (.int 7), .val (.ref c7), .val (.int 1), .unset, .unset, .unset] [(.int 3), (.int 7)]))
    refine own_to (fun _ kont => XS.icmpNo X15.here hx rfl (hb hby at_22) rfl (feq (by decide)).1 kont) ?_
    show own_Ends _ _ _ _ (T15.setTop (mkF m 25 #[.val (.int z1), .val (.int 7), .val (.ref c7), .val (.int 1), .unset, .unset, .unset] []))
    refine own_to (fun _ kont => XS.iloadN X15.here hx rfl (hb hby at_25) rfl kont) ?_
    show own_Ends _ _ _ _ (T15.setTop (mkF m 26 #[.val (.int z1), .val (.int 7), .val (.ref c7), .val (.int 1), .unset, .unset, .unset] [(.int 7)]))
    refine own_to (fun _ kont => XS.iconst X15.here hx rfl (hb hby at_26) kont) ?_
    show own_Ends _ _ _ _ (T15.setTop (mkF m 27 #[.val (.int z1), .val (.int 7), .val (.ref c7), .val (.int 1), .unset, .unset, .unset] [(.int 5), (.int 7)]))
    refine own_to (fun _ kont => XS.icmpYes X15.here hx rfl (pc0 := 27) (pc' := 34) rfl (hb hby at_27) rfl (feq (by decide)).2 (by decide) (by decide) kont) ?_
    show own_Ends _ _ _ _ (T15.setTop (mkF m 34 #[.val (.int z1), .val (.int 7), .val (.ref c7), .val (.int 1), .unset, .unset, .unset] []))
    refine own_to (fun _ kont => XS.iconst X15.here hx rfl (hb hby at_34) kont) ?_
    show own_Ends _ _ _ _ (T15.setTop (mkF m 35 #[.val (.int z1), .val (.int 7), .val (.ref c7), .val (.int 1), .unset, .unset, .unset] [(.int 0)]))
    refine own_to (fun _ kont => XS.istore X15.here hx rfl (hb hby at_35) rfl (l' := #[.val (.int z1), .val (.int (7 : Int32)), .val (.ref c7), .val (.int (1 : Int32)), .val (.int (0 : Int32)), .unset, .unset]) rfl kont) ?_
    show own_Ends _ _ _ _ (T15.setTop (mkF m 37 #[.val (.int z1), .val (.int 7), .val (.ref c7), .val (.int 1), .val (.int 0), .unset, .unset] []))
    refine own_to (fun _ kont => XS.iloadN X15.here hx rfl (hb hby at_37) rfl kont) ?_
    show own_Ends _ _ _ _ (T15.setTop (mkF m 38 #[.val (.int z1), .val (.int 7), .val (.ref c7), .val (.int 1), .val (.int 0), .unset, .unset] [(.int 7)]))
    refine own_to (fun _ kont => XS.bipush X15.here hx rfl (hb hby at_38) kont) ?_
    show own_Ends _ _ _ _ (T15.setTop (mkF m 40 #[.val (.int z1), .val (.int 7), .val (.ref c7), .val (.int 1), .val (.int 0), .unset, .unset] [(.int 6), (.int 7)]))
    refine own_to (fun _ kont => XS.icmpNo X15.here hx rfl (hb hby at_40) rfl (feq (by decide)).1 kont) ?_
    show own_Ends _ _ _ _ (T15.setTop (mkF m 43 #[.val (.int z1), .val (.int 7), .val (.ref c7), .val (.int 1), .val (.int 0), .unset, .unset] []))
    refine own_to (fun _ kont => XS.iloadN X15.here hx rfl (hb hby at_43) rfl kont) ?_
    show own_Ends _ _ _ _ (T15.setTop (mkF m 44 #[.val (.int z1), .val (.int 7), .val (.ref c7), .val (.int 1), .val (.int 0), .unset, .unset] [(.int 7)]))
    refine own_to (fun _ kont => XS.bipush X15.here hx rfl (hb hby at_44) kont) ?_
    show own_Ends _ _ _ _ (T15.setTop (mkF m 46 #[.val (.int z1), .val (.int 7), .val (.ref c7), .val (.int 1), .val (.int 0), .unset, .unset] [(.int 7), (.int 7)]))
    refine own_to (fun _ kont => XS.icmpNo X15.here hx rfl (hb hby at_46) rfl (teq (by decide)).2 kont) ?_
    show own_Ends _ _ _ _ (T15.setTop (mkF m 49 #[.val (.int z1), .val (.int 7), .val (.ref c7), .val (.int 1), .val (.int 0), .unset, .unset] []))
    refine own_to (fun _ kont => XS.iconst X15.here hx rfl (hb hby at_49) kont) ?_
    show own_Ends _ _ _ _ (T15.setTop (mkF m 50 #[.val (.int z1), .val (.int 7), .val (.ref c7), .val (.int 1), .val (.int 0), .unset, .unset] [(.int 1)]))
    refine own_to (fun _ kont => XS.goto X15.here hx rfl (pc0 := 50) (pc' := 54) rfl (hb hby at_50) (by decide) (by decide) kont) ?_
    show own_Ends _ _ _ _ (T15.setTop (mkF m 54 #[.val (.int z1), .val (.int 7), .val (.ref c7), .val (.int 1), .val (.int 0), .unset, .unset] [(.int 1)]))
    refine own_to (fun _ kont => XS.istore X15.here hx rfl (hb hby at_54) rfl (l' := #[.val (.int z1), .val (.int (7 : Int32)), .val (.ref c7), .val (.int (1 : Int32)), .val (.int (0 : Int32)), .val (.int (1 : Int32)), .unset]) rfl kont) ?_
    show own_Ends _ _ _ _ (T15.setTop (mkF m 56 #[.val (.int z1), .val (.int 7), .val (.ref c7), .val (.int 1), .val (.int 0), .val (.int 1), .unset] []))
    refine own_to (fun _ kont => XS.iloadN X15.here hx rfl (hb hby at_56) rfl kont) ?_
    show own_Ends _ _ _ _ (T15.setTop (mkF m 57 #[.val (.int z1), .val (.int 7), .val (.ref c7), .val (.int 1), .val (.int 0), .val (.int 1), .unset] [(.int 1)]))
    refine own_to (fun _ kont => XS.ifNo X15.here hx rfl (hb hby at_57) rfl ((if0 _ _).trans (feq (by decide)).1) kont) ?_
    show own_Ends _ _ _ _ (T15.setTop (mkF m 60 #[.val (.int z1), .val (.int 7), .val (.ref c7), .val (.int 1), .val (.int 0), .val (.int 1), .unset] []))
    refine own_to (fun _ kont => XS.iload X15.here hx rfl (hb hby at_60) rfl kont) ?_
    show own_Ends _ _ _ _ (T15.setTop (mkF m 62 #[.val (.int z1), .val (.int 7), .val (.ref c7), .val (.int 1), .val (.int 0), .val (.int 1), .unset] [(.int 0)]))
    refine own_to (fun _ kont => XS.ifNo X15.here hx rfl (hb hby at_62) rfl ((if0 _ _).trans (teq (by decide)).2) kont) ?_
    show own_Ends _ _ _ _ (T15.setTop (mkF m 65 #[.val (.int z1), .val (.int 7), .val (.ref c7), .val (.int 1), .val (.int 0), .val (.int 1), .unset] []))
    refine own_to (fun _ kont => XS.iload X15.here hx rfl (hb hby at_65) rfl kont) ?_
    show own_Ends _ _ _ _ (T15.setTop (mkF m 67 #[.val (.int z1), .val (.int 7), .val (.ref c7), .val (.int 1), .val (.int 0), .val (.int 1), .unset] [(.int 1)]))
    refine own_to (fun _ kont => XS.ifYes X15.here hx rfl (pc0 := 67) (pc' := 74) rfl (hb hby at_67) rfl ((if0 _ _).trans (feq (by decide)).2) (by decide) (by decide) kont) ?_
    show own_Ends _ _ _ _ (T15.setTop (mkF m 74 #[.val (.int z1), .val (.int 7), .val (.ref c7), .val (.int 1), .val (.int 0), .val (.int 1), .unset] []))
    refine own_to (fun _ kont => XS.iconst X15.here hx rfl (hb hby at_74) kont) ?_
    show own_Ends _ _ _ _ (T15.setTop (mkF m 75 #[.val (.int z1), .val (.int 7), .val (.ref c7), .val (.int 1), .val (.int 0), .val (.int 1), .unset] [(.int 0)]))
    refine own_to (fun _ kont => XS.istore X15.here hx rfl (hb hby at_75) rfl (l' := #[.val (.int z1), .val (.int (7 : Int32)), .val (.ref c7), .val (.int (1 : Int32)), .val (.int (0 : Int32)), .val (.int (1 : Int32)), .val (.int (0 : Int32))]) rfl kont) ?_
    show own_Ends _ _ _ _ (T15.setTop (mkF m 77 #[.val (.int z1), .val (.int 7), .val (.ref c7), .val (.int 1), .val (.int 0), .val (.int 1), .val (.int 0)] []))
    refine own_to (fun _ kont => XS.aloadN X15.here hx rfl (hb hby at_77) rfl rfl kont) ?_
    show own_Ends _ _ _ _ (T15.setTop (mkF m 78 #[.val (.int z1), .val (.int 7), .val (.ref c7), .val (.int 1), .val (.int 0), .val (.int 1), .val (.int 0)] [(.ref c7)]))
    obtain ⟨cq16, kq16, q16a, q16b, q16c⟩ := isOf hZ E15 (E_c7.ext O0.2)
    obtain ⟨_, _, ⟨T16, L16, k16, n16⟩, -, X16, ⟨Lc16, hQ16, l16, y16, z16⟩, st16⟩ := X15.virtualBack hx (y := oM1) (z := oM1) hown (mvT hZ (ow7 hw)) (mvT hZ (ow8 hw)) (notFace_of_selects (args := #[]) (mvT hZ (ow10 hw))) (mvT hZ (ow10 hw)) (mvT hZ (ow9 hw)) (by decide) (backOf (W := 0) (rm2 l Z a0 hw [] c7 c1 c2 c4 h0 n0 O0 S_c1 S_c2 S_c4) hZ (ow11 hw) (ow5 hw) (by decide) (by decide)) q16a q16c (g := (mkF m 78 #[.val (.int z1), .val (.int (7 : Int32)), .val (.ref c7), .val (.int (1 : Int32)), .val (.int (0 : Int32)), .val (.int (1 : Int32)), .val (.int (0 : Int32))] [(.ref c7)])) rfl (by rw [hml]; rfl) (Steps.refl _) (argsL := []) (rest := []) (lenOf pd_1 rfl) rfl (by show 2 * 0 + _ ≤ _; exact Nat.le_of_eq rfl) (hb hby at_78) (fun _ _ => ⟨rfl, E15, (own_le rfl), (own_le rfl)⟩)
    dsimp only [Pt.U, Pt.locs, Pt.cells, Pt.slots] at X16 l16 y16 z16 st16 hQ16
    subst l16 y16 z16
    obtain ⟨hv16, N16q, E16⟩ := hQ16
    rw [own_is_no (Fld.ne F_c7 F_c1 (own_intne (by decide))) (Fld.ne F_c7 F_c2 (own_intne (by decide))) (Fld.ne F_c7 F_c4 (own_intne (by decide)))] at hv16
    subst hv16
    have N16 := Fr.app N15 N16q
    refine own_tr st16 ?_
    show own_Ends _ _ _ _ (T16.setTop (mkF m 81 #[.val (.int z1), .val (.int 7), .val (.ref c7), .val (.int 1), .val (.int 0), .val (.int 1), .val (.int 0)] [(.int 0)]))
    refine own_to (fun _ kont => XS.iload X16.here hx rfl (hb hby at_81) rfl kont) ?_
    show own_Ends _ _ _ _ (T16.setTop (mkF m 83 #[.val (.int z1), .val (.int 7), .val (.ref c7), .val (.int 1), .val (.int 0), .val (.int 1), .val (.int 0)] [(.int 0), (.int 0)]))
    refine own_to (fun _ kont => XS.icmpNo X16.here hx rfl (hb hby at_83) rfl (teq (by decide)).2 kont) ?_
    show own_Ends _ _ _ _ (T16.setTop (mkF m 86 #[.val (.int z1), .val (.int 7), .val (.ref c7), .val (.int 1), .val (.int 0), .val (.int 1), .val (.int 0)] []))
    refine own_to (fun _ kont => XS.iconst X16.here hx rfl (hb hby at_86) kont) ?_
    show own_Ends _ _ _ _ (T16.setTop (mkF m 87 #[.val (.int z1), .val (.int 7), .val (.ref c7), .val (.int 1), .val (.int 0), .val (.int 1), .val (.int 0)] [(.int 1)]))
    refine own_to (fun _ kont => XS.goto X16.here hx rfl (pc0 := 87) (pc' := 91) rfl (hb hby at_87) (by decide) (by decide) kont) ?_
    show own_Ends _ _ _ _ (T16.setTop (mkF m 91 #[.val (.int z1), .val (.int 7), .val (.ref c7), .val (.int 1), .val (.int 0), .val (.int 1), .val (.int 0)] [(.int 1)]))
    refine own_leave X16 (v := some (.int (1 : Int32))) (fun h => by rw [Bd.returns] at h; cases h) ?_ (by decide) (by decide) (fun fs hr => retN X16 hx (t := .boolean) Bd.returns (by simp) (hb hby at_91) hr)
    show Q_rm0 Z z1 c0 c1 c2 c3 c4 c5 c6 c7 h0 n0 _ T16.heap _
    rw [E16]
    exact ⟨rfl, N16⟩
set_option maxRecDepth 65536 in
set_option maxHeartbeats 40000000 in
theorem comes_1 {Post : Tables → Env → Array Value → State → Outcome → State → Prop} (hpost : ∀ tb e args s v u, (limb_1_1.after args s (.returned v) u = true ∧ limb_1_2.after args s (.returned v) u = true ∧ True) → FrameEnd s (.returned v) u (Jvm.fieldLocs frame_1_writes args s ++ Jvm.arrayLocs frame_1_arrays args s ++ Jvm.staticLocs frame_1_statics s) 0 0 → Post tb e args s (.returned v) u) :
    ArmFor flags0 classFile x code maxLocals ret World_1 tables_1 room_1 Calls_1 rest_1 Pre_1 Post := by
  intro l hfl _ _ p e ha hc hk s m args below hf hA hF happ hP
  obtain ⟨hcalls, hrest, hpre⟩ := hP
  obtain ⟨-, -, -, hnamed, -, -, -, hat⟩ := (Spec.applies_iff hf).mp happ
  obtain ⟨hg, hn⟩ := and_e (Cond.before_iff.mp (show (Jvm.Cond.and given_1 narrow_1).before args s = true from hpre))
  obtain ⟨gc0, hg0⟩ := and_e hg
  have gc1 := hg0
  obtain ⟨nc0, hn0⟩ := and_e hn
  obtain ⟨nc1, hn1⟩ := and_e hn0
  obtain ⟨nc2, hn2⟩ := and_e hn1
  obtain ⟨nc3, hn3⟩ := and_e hn2
  obtain ⟨nc4, hn4⟩ := and_e hn3
  obtain ⟨nc5, hn5⟩ := and_e hn4
  obtain ⟨nc6, hn6⟩ := and_e hn5
  obtain ⟨nc7, hn7⟩ := and_e hn6
  obtain ⟨nc8, hn8⟩ := and_e hn7
  obtain ⟨nc9, hn9⟩ := and_e hn8
  obtain ⟨nc10, hn10⟩ := and_e hn9
  obtain ⟨nc11, hn11⟩ := and_e hn10
  obtain ⟨nc12, hn12⟩ := and_e hn11
  obtain ⟨nc13, hn13⟩ := and_e hn12
  obtain ⟨nc14, hn14⟩ := and_e hn13
  have nc15 := hn14
  obtain ⟨w0, rfl⟩ : ∃ w0 : Value, args = #[w0] := by
    have hs : args.size = 1 := by simpa [Cond.value, given_1] using gc0
    obtain ⟨L⟩ := args
    match L, hs with
    | [w0], _ => exact ⟨w0, rfl⟩
  have hw := fun d (hd : d ∈ tables_1) => atoms_spec (ws := Jvm.Cond.code x code maxLocals ret :: tables_1) hat d (List.mem_cons_of_mem _ hd)
  have hfit : Fit s := fun {y c} hc i hi => by
    obtain ⟨ha, rfl⟩ := Array.getElem?_eq_some_iff.mp hc
    have q := List.all_eq_true.mp ((Array.all_eq_true_iff_forall_mem.mp hF) _ (Array.getElem_mem ha)) i (List.mem_range.mpr hi)
    simpa [Array.getElem?_eq_getElem hi] using q
  obtain ⟨i0, ei0⟩ := is_v gc1
  obtain rfl : w0 = (.int i0) := Option.some.inj ei0
  obtain ⟨c0, ev_c0⟩ := exa_v nc0
  have E_c0 : Exa s s.heap c0 "com/example/ship_shore_exchange/shipshoreexchange/model/MsiStatus" := Exa.start ev_c0 nc0
  have S_c0 : Sta s s.heap "com/example/ship_shore_exchange/shipshoreexchange/model/MsiStatus" "CREATED" "Lcom/example/ship_shore_exchange/shipshoreexchange/model/MsiStatus;" (.ref c0) := Sta.start ev_c0 (Or.inr ⟨(ow5 hw), (ow6 hw)⟩)
  obtain ⟨c1, ev_c1⟩ := exa_v nc1
  have E_c1 : Exa s s.heap c1 "com/example/ship_shore_exchange/shipshoreexchange/model/MsiStatus" := Exa.start ev_c1 nc1
  have S_c1 : Sta s s.heap "com/example/ship_shore_exchange/shipshoreexchange/model/MsiStatus" "SCHEDULED" "Lcom/example/ship_shore_exchange/shipshoreexchange/model/MsiStatus;" (.ref c1) := Sta.start ev_c1 (Or.inr ⟨(ow5 hw), (ow13 hw)⟩)
  obtain ⟨c2, ev_c2⟩ := exa_v nc4
  have E_c2 : Exa s s.heap c2 "com/example/ship_shore_exchange/shipshoreexchange/model/MsiStatus" := Exa.start ev_c2 nc4
  have S_c2 : Sta s s.heap "com/example/ship_shore_exchange/shipshoreexchange/model/MsiStatus" "ACTIVE" "Lcom/example/ship_shore_exchange/shipshoreexchange/model/MsiStatus;" (.ref c2) := Sta.start ev_c2 (Or.inr ⟨(ow5 hw), (ow15 hw)⟩)
  obtain ⟨c4, ev_c4⟩ := exa_v nc6
  have E_c4 : Exa s s.heap c4 "com/example/ship_shore_exchange/shipshoreexchange/model/MsiStatus" := Exa.start ev_c4 nc6
  have S_c4 : Sta s s.heap "com/example/ship_shore_exchange/shipshoreexchange/model/MsiStatus" "CANCELLING" "Lcom/example/ship_shore_exchange/shipshoreexchange/model/MsiStatus;" (.ref c4) := Sta.start ev_c4 (Or.inr ⟨(ow5 hw), (ow17 hw)⟩)
  obtain ⟨c3, ev_c3⟩ := exa_v nc8
  have E_c3 : Exa s s.heap c3 "com/example/ship_shore_exchange/shipshoreexchange/model/MsiStatus" := Exa.start ev_c3 nc8
  have S_c3 : Sta s s.heap "com/example/ship_shore_exchange/shipshoreexchange/model/MsiStatus" "FINISHED" "Lcom/example/ship_shore_exchange/shipshoreexchange/model/MsiStatus;" (.ref c3) := Sta.start ev_c3 (Or.inr ⟨(ow5 hw), (ow19 hw)⟩)
  obtain ⟨c6, ev_c6⟩ := exa_v nc10
  have E_c6 : Exa s s.heap c6 "com/example/ship_shore_exchange/shipshoreexchange/model/MsiStatus" := Exa.start ev_c6 nc10
  have S_c6 : Sta s s.heap "com/example/ship_shore_exchange/shipshoreexchange/model/MsiStatus" "BROADCAST_ERROR" "Lcom/example/ship_shore_exchange/shipshoreexchange/model/MsiStatus;" (.ref c6) := Sta.start ev_c6 (Or.inr ⟨(ow5 hw), (ow21 hw)⟩)
  obtain ⟨c7, ev_c7⟩ := exa_v nc12
  have E_c7 : Exa s s.heap c7 "com/example/ship_shore_exchange/shipshoreexchange/model/MsiStatus" := Exa.start ev_c7 nc12
  have S_c7 : Sta s s.heap "com/example/ship_shore_exchange/shipshoreexchange/model/MsiStatus" "CANCEL_ERROR" "Lcom/example/ship_shore_exchange/shipshoreexchange/model/MsiStatus;" (.ref c7) := Sta.start ev_c7 (Or.inr ⟨(ow5 hw), (ow23 hw)⟩)
  obtain ⟨c5, ev_c5⟩ := exa_v nc14
  have E_c5 : Exa s s.heap c5 "com/example/ship_shore_exchange/shipshoreexchange/model/MsiStatus" := Exa.start ev_c5 nc14
  have S_c5 : Sta s s.heap "com/example/ship_shore_exchange/shipshoreexchange/model/MsiStatus" "CANCELLED" "Lcom/example/ship_shore_exchange/shipshoreexchange/model/MsiStatus;" (.ref c5) := Sta.start ev_c5 (Or.inr ⟨(ow5 hw), (ow28 hw)⟩)
  have F_c0_ordinal : Fld s s.heap c0 "java/lang/Enum" "ordinal" "I" (.int (0 : Int32)) := Fld.start ((fld_at ev_c0).symm.trans (own_eqI nc2))
  have F_c1_ordinal : Fld s s.heap c1 "java/lang/Enum" "ordinal" "I" (.int (1 : Int32)) := Fld.start ((fld_at ev_c1).symm.trans (own_eqI nc3))
  have F_c2_ordinal : Fld s s.heap c2 "java/lang/Enum" "ordinal" "I" (.int (2 : Int32)) := Fld.start ((fld_at ev_c2).symm.trans (own_eqI nc5))
  have F_c4_ordinal : Fld s s.heap c4 "java/lang/Enum" "ordinal" "I" (.int (4 : Int32)) := Fld.start ((fld_at ev_c4).symm.trans (own_eqI nc7))
  have F_c3_ordinal : Fld s s.heap c3 "java/lang/Enum" "ordinal" "I" (.int (3 : Int32)) := Fld.start ((fld_at ev_c3).symm.trans (own_eqI nc9))
  have F_c6_ordinal : Fld s s.heap c6 "java/lang/Enum" "ordinal" "I" (.int (6 : Int32)) := Fld.start ((fld_at ev_c6).symm.trans (own_eqI nc11))
  have F_c7_ordinal : Fld s s.heap c7 "java/lang/Enum" "ordinal" "I" (.int (7 : Int32)) := Fld.start ((fld_at ev_c7).symm.trans (own_eqI nc13))
  have F_c5_ordinal : Fld s s.heap c5 "java/lang/Enum" "ordinal" "I" (.int (5 : Int32)) := Fld.start ((fld_at ev_c5).symm.trans (own_eqI nc15))
  obtain ⟨n, o, h1, h2, h3, _, L, rfl, ⟨rfl, N⟩, hq⟩ := rm0 l s _ hw tables_1 i0 c0 c1 c2 c3 c4 c5 c6 c7 s.heap s.heap.size (Old.start s) S_c0 S_c1 S_c2 S_c3 S_c4 S_c5 S_c6 S_c7 E_c0 E_c1 E_c2 E_c3 E_c4 E_c5 E_c6 E_c7 F_c0_ordinal F_c1_ordinal F_c2_ordinal F_c3_ordinal F_c4_ordinal F_c5_ordinal F_c6_ordinal F_c7_ordinal p e ha hc hk s m _ below hf ((Spec.applies_iff_loose hf).mp happ).1 ⟨rfl, State.Warmed39.refl s, rfl⟩ trivial
  refine ⟨n, _, h1, h2, h3, hpost _ _ _ _ _ _ ⟨Cond.after_iff.mpr rfl, Cond.after_iff.mpr (eq_i res_at (Term.int_eval (1)) rfl), trivial⟩ ⟨hq.1, hq.2.1, (hq.2.2.sift fun y hy => Or.inr (N y hy)).mono (by decide) (by decide)⟩⟩
theorem main_1_1 : Claimed_1_1 := comes_1 fun _ _ _ _ _ _ h hF => ⟨h.1, hF⟩
theorem main_1_2 : Claimed_1_2 := comes_1 fun _ _ _ _ _ _ h hF => ⟨h.2.1, hF⟩
end Jvm.Pilot.@@N@@
namespace Jvm.Pilot.@@N@@
open Jvm Jvm.ClassFile Sem Op Lib Jvm.Free Jvm.Stand Jvm.Pilot.@@N@@.Jvm.D
/-! MADE BY PROGRAM (witnessworld.py) out of the Statement's table words and the real class files: 12 classes; the members and pool entries that the words name. The judged class is class 1, her method 2. -/
namespace start1
open Jvm.ClassFile
def u (s : String) : CpInfo := .utf8 (stringToUtf16 s)
/-- a pool by its gaps: so many unusable entries, then the entry; so many at the end -/
def gap : Nat → List CpInfo → List CpInfo
  | 0, r => r
  | n + 1, r => .unusable :: gap n r
def poolList (es : List (Nat × CpInfo)) (last : Nat) : List CpInfo := es.foldr (fun e r => gap e.1 (e.2 :: r)) (gap last [])
def pool (es : List (Nat × CpInfo)) (last : Nat) : Array CpInfo := ⟨poolList es last⟩
def fileOf (pool : Array CpInfo) (this : Nat) (attrs : Array Attribute := #[]) (ms : Array MethodInfo := #[]) (fl : Nat := 33) (sup : Nat := 0) (ifs : Array Nat := #[]) (fds : Array FieldInfo := #[]) : ClassFile where
  minorVersion := 0
  majorVersion := 65
  constantPool := pool
  accessFlags := fl
  thisClass := this
  superClass := sup
  interfaces := ifs
  fields := fds
  methods := ms
  attributes := attrs
def plain (name : String) (sup : Option ClassId) : Class where
  name := name
  kind := .ordinary
  loader := none
  accessFlags := 33
  super := sup
  interfaces := #[]
  cf := none
  fields := #[]
  methods := #[]
  instanceTypes := #[]
  staticTypes := #[]
  resolved := #[]
  callSites := []
  init := .initialized
  statics := none
  mirror := none

def pool0 : Array CpInfo := pool [(5, u "<init>"), (0, u "()V"), (1, .class_ 10), (1, u "java/lang/Object")] 113

def k0m0 : Method := { name := "<init>", desc := "()V", sig := { parameters := [], returnType := none }, accessFlags := 1, code := none }
/-- java/lang/Object -/
def k0 : Class := { plain "java/lang/Object" none with
  accessFlags := 33
  interfaces := #[]
  cf := some (fileOf pool0 8 #[] #[{ accessFlags := 1, nameIndex := 5, descriptorIndex := 6, attributes := #[] }] 33 0 #[] #[])
  fields := #[]
  methods := #[k0m0]
  instanceTypes := #[]
  staticTypes := #[]
  resolved := Array.replicate 124 none
  statics := none }

def pool1 : Array CpInfo := pool [(2, .class_ 4), (1, u "java/lang/Object"), (0, u "<init>"), (0, u "()V"), (0, .fieldref 8 9), (0, .class_ 10), (0, .nameAndType 11 12), (0, u "com/example/ship_shore_exchange/shipshoreexchange/model/MsiStatus"), (0, u "CREATED"), (0, u "Lcom/example/ship_shore_exchange/shipshoreexchange/model/MsiStatus;"), (0, .fieldref 8 14), (0, .nameAndType 15 12), (0, u "SCHEDULED"), (0, .fieldref 8 17), (0, .nameAndType 18 12), (0, u "ACTIVE"), (0, .fieldref 8 20), (0, .nameAndType 21 12), (0, u "FINISHED"), (0, .fieldref 8 23), (0, .nameAndType 24 12), (0, u "CANCELLING"), (0, .fieldref 8 26), (0, .nameAndType 27 12), (0, u "CANCELLED"), (0, .fieldref 8 29), (0, .nameAndType 30 12), (0, u "BROADCAST_ERROR"), (0, .fieldref 8 32), (0, .nameAndType 33 12), (0, u "CANCEL_ERROR"), (0, .methodref 35 36), (0, .class_ 37), (0, .nameAndType 38 39), (0, u "com/example/ship_shore_exchange/shipshoreexchange/model/MsiStatusIsWithProviderPinLaw"), (0, u "pick"), (0, u "(I)Lcom/example/ship_shore_exchange/shipshoreexchange/model/MsiStatus;"), (0, .methodref 8 41), (0, .nameAndType 42 43), (0, u "isWithProvider"), (0, u "()Z"), (3, u "law"), (0, u "(I)Z")] 2

def k1m0 : Method := { name := "<init>", desc := "()V", sig := { parameters := [], returnType := none }, accessFlags := 1, code := none }
def k1c1 : Code := { maxStack := 2, maxLocals := 1, code := method_2_code, exceptionTable := #[], attributes := #[] }
def k1m1 : Method := { name := "pick", desc := "(I)Lcom/example/ship_shore_exchange/shipshoreexchange/model/MsiStatus;", sig := { parameters := [.int], returnType := some (.object "com/example/ship_shore_exchange/shipshoreexchange/model/MsiStatus") }, accessFlags := 10, code := some k1c1 }
def k1c2 : Code := { maxStack := 2, maxLocals := 7, code := code, exceptionTable := #[], attributes := #[] }
def k1m2 : Method := { name := "law", desc := "(I)Z", sig := { parameters := [.int], returnType := some .boolean }, accessFlags := 9, code := some k1c2 }
/-- com/example/ship_shore_exchange/shipshoreexchange/model/MsiStatusIsWithProviderPinLaw -/
def k1 : Class := { plain "com/example/ship_shore_exchange/shipshoreexchange/model/MsiStatusIsWithProviderPinLaw" (some 0) with
  accessFlags := 49
  interfaces := #[]
  cf := some (fileOf pool1 35 #[] #[{ accessFlags := 1, nameIndex := 5, descriptorIndex := 6, attributes := #[] }, { accessFlags := 10, nameIndex := 38, descriptorIndex := 39, attributes := #[] }, { accessFlags := 9, nameIndex := 47, descriptorIndex := 48, attributes := #[] }] 49 2 #[] #[])
  fields := #[]
  methods := #[k1m0, k1m1, k1m2]
  instanceTypes := #[]
  staticTypes := #[]
  resolved := Array.replicate 51 none
  statics := none }

def pool2 : Array CpInfo := pool [(1, .class_ 2), (0, u "java/lang/constant/Constable"), (0, .class_ 4), (0, u "java/lang/Object")] 6

/-- java/lang/constant/Constable -/
def k2 : Class := { plain "java/lang/constant/Constable" (some 0) with
  accessFlags := 1537
  interfaces := #[]
  cf := some (fileOf pool2 1 #[] #[] 1537 3 #[] #[])
  fields := #[]
  methods := #[]
  instanceTypes := #[]
  staticTypes := #[]
  resolved := Array.replicate 11 none
  statics := none }

def pool3 : Array CpInfo := pool [(1, .class_ 2), (0, u "java/lang/Comparable"), (0, .class_ 4), (0, u "java/lang/Object")] 7

/-- java/lang/Comparable -/
def k3 : Class := { plain "java/lang/Comparable" (some 0) with
  accessFlags := 1537
  interfaces := #[]
  cf := some (fileOf pool3 1 #[] #[] 1537 3 #[] #[])
  fields := #[]
  methods := #[]
  instanceTypes := #[]
  staticTypes := #[]
  resolved := Array.replicate 12 none
  statics := none }

def pool4 : Array CpInfo := pool [(1, .class_ 2), (0, u "java/io/Serializable"), (0, .class_ 4), (0, u "java/lang/Object")] 2

/-- java/io/Serializable -/
def k4 : Class := { plain "java/io/Serializable" (some 0) with
  accessFlags := 1537
  interfaces := #[]
  cf := some (fileOf pool4 1 #[] #[] 1537 3 #[] #[])
  fields := #[]
  methods := #[]
  instanceTypes := #[]
  staticTypes := #[]
  resolved := Array.replicate 7 none
  statics := none }

def pool5 : Array CpInfo := pool [(2, .class_ 4), (1, u "java/lang/Enum"), (0, u "name"), (0, u "Ljava/lang/String;"), (2, u "ordinal"), (0, u "I"), (1, .class_ 14), (1, u "java/lang/Object"), (4, u "hash"), (86, .class_ 108), (1, u "java/lang/Enum$EnumDesc"), (2, .class_ 112), (0, u "java/lang/constant/Constable"), (0, .class_ 114), (0, u "java/lang/Comparable"), (0, .class_ 116), (0, u "java/io/Serializable")] 87

/-- java/lang/Enum -/
def k5 : Class := { plain "java/lang/Enum" (some 0) with
  accessFlags := 1057
  interfaces := #[2, 3, 4]
  cf := some (fileOf pool5 2 #[.nestMembers #[106]] #[] 1057 12 #[111, 113, 115] #[{ accessFlags := 18, nameIndex := 5, descriptorIndex := 6, attributes := #[] }, { accessFlags := 18, nameIndex := 9, descriptorIndex := 10, attributes := #[] }, { accessFlags := 2, nameIndex := 19, descriptorIndex := 10, attributes := #[] }])
  fields := #[{ name := "name", type := (.object "java/lang/String"), accessFlags := 18, slot := 0, constantValue := 0 }, { name := "ordinal", type := .int, accessFlags := 18, slot := 1, constantValue := 0 }, { name := "hash", type := .int, accessFlags := 2, slot := 2, constantValue := 0 }]
  methods := #[]
  instanceTypes := #[(.object "java/lang/String"), .int, .int]
  staticTypes := #[]
  resolved := Array.replicate 204 none
  statics := none }

def pool6 : Array CpInfo := pool [(1, .class_ 2), (0, u "com/example/ship_shore_exchange/shipshoreexchange/model/MsiStatus"), (2, u "CREATED"), (0, u "Lcom/example/ship_shore_exchange/shipshoreexchange/model/MsiStatus;"), (0, .fieldref 1 8), (0, .nameAndType 9 6), (0, u "SCHEDULED"), (0, .fieldref 1 11), (0, .nameAndType 12 6), (0, u "ACTIVE"), (2, u "FINISHED"), (0, .fieldref 1 17), (0, .nameAndType 18 6), (0, u "CANCELLING"), (2, u "CANCELLED"), (2, u "BROADCAST_ERROR"), (2, u "CANCEL_ERROR"), (2, u "$VALUES"), (0, u "[Lcom/example/ship_shore_exchange/shipshoreexchange/model/MsiStatus;"), (6, .class_ 40), (1, u "java/lang/Enum"), (8, u "timeMember"), (0, u "Ljava/lang/String;"), (68, u "isWithProvider"), (0, u "()Z")] 5

def k6c0 : Code := { maxStack := 2, maxLocals := 1, code := prog_5_method_6_code, exceptionTable := #[], attributes := #[] }
def k6m0 : Method := { name := "isWithProvider", desc := "()Z", sig := { parameters := [], returnType := some .boolean }, accessFlags := 1, code := some k6c0 }
/-- com/example/ship_shore_exchange/shipshoreexchange/model/MsiStatus -/
def k6 : Class := { plain "com/example/ship_shore_exchange/shipshoreexchange/model/MsiStatus" (some 5) with
  accessFlags := 16433
  interfaces := #[]
  cf := some (fileOf pool6 1 #[] #[{ accessFlags := 1, nameIndex := 119, descriptorIndex := 120, attributes := #[] }] 16433 38 #[] #[{ accessFlags := 16409, nameIndex := 5, descriptorIndex := 6, attributes := #[] }, { accessFlags := 16409, nameIndex := 9, descriptorIndex := 6, attributes := #[] }, { accessFlags := 16409, nameIndex := 12, descriptorIndex := 6, attributes := #[] }, { accessFlags := 16409, nameIndex := 15, descriptorIndex := 6, attributes := #[] }, { accessFlags := 16409, nameIndex := 18, descriptorIndex := 6, attributes := #[] }, { accessFlags := 16409, nameIndex := 21, descriptorIndex := 6, attributes := #[] }, { accessFlags := 16409, nameIndex := 24, descriptorIndex := 6, attributes := #[] }, { accessFlags := 16409, nameIndex := 27, descriptorIndex := 6, attributes := #[] }, { accessFlags := 18, nameIndex := 49, descriptorIndex := 50, attributes := #[] }, { accessFlags := 4122, nameIndex := 30, descriptorIndex := 31, attributes := #[] }])
  fields := #[{ name := "CREATED", type := (.object "com/example/ship_shore_exchange/shipshoreexchange/model/MsiStatus"), accessFlags := 16409, slot := 0, constantValue := 0 }, { name := "SCHEDULED", type := (.object "com/example/ship_shore_exchange/shipshoreexchange/model/MsiStatus"), accessFlags := 16409, slot := 1, constantValue := 0 }, { name := "ACTIVE", type := (.object "com/example/ship_shore_exchange/shipshoreexchange/model/MsiStatus"), accessFlags := 16409, slot := 2, constantValue := 0 }, { name := "FINISHED", type := (.object "com/example/ship_shore_exchange/shipshoreexchange/model/MsiStatus"), accessFlags := 16409, slot := 3, constantValue := 0 }, { name := "CANCELLING", type := (.object "com/example/ship_shore_exchange/shipshoreexchange/model/MsiStatus"), accessFlags := 16409, slot := 4, constantValue := 0 }, { name := "CANCELLED", type := (.object "com/example/ship_shore_exchange/shipshoreexchange/model/MsiStatus"), accessFlags := 16409, slot := 5, constantValue := 0 }, { name := "BROADCAST_ERROR", type := (.object "com/example/ship_shore_exchange/shipshoreexchange/model/MsiStatus"), accessFlags := 16409, slot := 6, constantValue := 0 }, { name := "CANCEL_ERROR", type := (.object "com/example/ship_shore_exchange/shipshoreexchange/model/MsiStatus"), accessFlags := 16409, slot := 7, constantValue := 0 }, { name := "timeMember", type := (.object "java/lang/String"), accessFlags := 18, slot := 3, constantValue := 0 }, { name := "$VALUES", type := (.array (.object "com/example/ship_shore_exchange/shipshoreexchange/model/MsiStatus")), accessFlags := 4122, slot := 8, constantValue := 0 }]
  methods := #[k6m0]
  instanceTypes := #[(.object "java/lang/String"), .int, .int, (.object "java/lang/String")]
  staticTypes := #[(.object "com/example/ship_shore_exchange/shipshoreexchange/model/MsiStatus"), (.object "com/example/ship_shore_exchange/shipshoreexchange/model/MsiStatus"), (.object "com/example/ship_shore_exchange/shipshoreexchange/model/MsiStatus"), (.object "com/example/ship_shore_exchange/shipshoreexchange/model/MsiStatus"), (.object "com/example/ship_shore_exchange/shipshoreexchange/model/MsiStatus"), (.object "com/example/ship_shore_exchange/shipshoreexchange/model/MsiStatus"), (.object "com/example/ship_shore_exchange/shipshoreexchange/model/MsiStatus"), (.object "com/example/ship_shore_exchange/shipshoreexchange/model/MsiStatus"), (.array (.object "com/example/ship_shore_exchange/shipshoreexchange/model/MsiStatus"))]
  resolved := Array.replicate 126 none
  statics := some 0 }

def pool7 : Array CpInfo := pool [(1, u "java/lang/Cloneable"), (0, .class_ 1), (0, u "java/lang/Object"), (0, .class_ 3)] 3

/-- java/lang/Cloneable -/
def k7 : Class := { plain "java/lang/Cloneable" (some 0) with
  accessFlags := 1537
  interfaces := #[]
  cf := some (fileOf pool7 2 #[] #[] 1537 4 #[] #[])
  fields := #[]
  methods := #[]
  instanceTypes := #[]
  staticTypes := #[]
  resolved := Array.replicate 8 none
  statics := none }

/-- the primitive byte -/
def k8 : Class := { plain "byte" none with kind := .primitive 'B', accessFlags := 0x411 }
/-- [B -/
def k9 : Class := { plain "[B" (some 0) with kind := .array 8 .byte, interfaces := #[7, 4], accessFlags := 1041 }

/-- the primitive int -/
def k10 : Class := { plain "int" none with kind := .primitive 'I', accessFlags := 0x411 }
/-- [I -/
def k11 : Class := { plain "[I" (some 0) with kind := .array 10 .int, interfaces := #[7, 4], accessFlags := 1041 }

def heap : Heap := #[{ cls := 6, slots := #[.ref 1, .ref 2, .ref 3, .ref 5, .ref 4, .ref 8, .ref 6, .ref 7, .null], vm := .statics 6 },
  { cls := 6, slots := #[.null, .int 0, .int 0, .null], vm := .none },
  { cls := 6, slots := #[.null, .int 1, .int 0, .null], vm := .none },
  { cls := 6, slots := #[.null, .int 2, .int 0, .null], vm := .none },
  { cls := 6, slots := #[.null, .int 4, .int 0, .null], vm := .none },
  { cls := 6, slots := #[.null, .int 3, .int 0, .null], vm := .none },
  { cls := 6, slots := #[.null, .int 6, .int 0, .null], vm := .none },
  { cls := 6, slots := #[.null, .int 7, .int 0, .null], vm := .none },
  { cls := 6, slots := #[.null, .int 5, .int 0, .null], vm := .none }]
def classes : Array Class := #[k0, k1, k2, k3, k4, k5, k6, k7, k8, k9, k10, k11]
def interned : List (Array UInt16 × Addr) := []
def slotsUsed : Nat := 41
def theMethod : MethodId := ⟨1, 2⟩
def args0 : Array Value := #[.int 5]
def aboutOver (below : List Frame) : State where
  vm := { classes := classes, interned := interned.toArray }
  heap := heap
  slotsUsed := slotsUsed
  threads := #[{ frames := .invoking theMethod args0 :: below }]
def below0 : List Frame := [.native { method := ⟨0, 0⟩, args := #[] }]
def about1 : State := aboutOver below0
def p0 : Program := .bare "" "" ""
def e0 : Env := launch0.env 0 0 0
theorem w_frames : about1.frames = Frame.invoking theMethod args0 :: below0 := rfl
set_option maxRecDepth 65536 in
theorem w_args : argsFit about1.vm theMethod args0 = true := by decide +kernel
set_option maxRecDepth 65536 in
theorem w_heap : heapFits about1 = true := by decide +kernel
set_option maxRecDepth 65536 in
theorem w_runnable : about1.curStatus? = some .runnable := by decide +kernel
set_option maxRecDepth 65536 in
theorem w_alone : about1.alone = true := by decide +kernel
set_option maxRecDepth 65536 in
theorem w_named : about1.methodNamed? x = some theMethod := by decide +kernel
set_option maxRecDepth 65536 in
theorem w_hears : about1.hears theMethod below0 = true := by decide +kernel
set_option maxRecDepth 65536 in
theorem w_ripe : about1.ripe theMethod args0 below0 = true := by decide +kernel
theorem w_running : about1.status = .running := rfl
set_option maxRecDepth 65536 in
theorem w_room : about1.hasRoom e0.platform room_1 = true :=
  launch0.hasRoom_least _ room_1 (by decide +kernel) (by decide +kernel) (by decide +kernel) (by decide +kernel) (by decide +kernel) (by decide +kernel)
theorem allAtoms_all (ts : List Jvm.Cond) (a : Array Jvm.Value) (st : Jvm.State) : (allAtoms ts).before a st = ts.all (fun c => c.before a st) := by
  induction ts with
  | nil => rfl
  | cons c t ih =>
    show (Jvm.Cond.and c (allAtoms t)).before a st = _
    rw [Jvm.Cond.before_and, ih, List.all_cons]
def words1 : List Jvm.Cond := Jvm.Cond.code x code maxLocals ret :: tables_1
/-- a 'code' word, met by the world's own term for the bytes: nothing is compared byte by byte -/
theorem code_word {y : MethodName} {bytes : ByteArray} {mx : Nat} {rt : Option FieldType} {a : Array Value} {s : State} {m : MethodId} {meth : Method} {c : Code} (h1 : s.methodNamed? y = some m) (h2 : s.vm.method? m = some meth) (h3 : meth.code = some c) (h4 : c.code = bytes)
    (h5 : (c.maxLocals == mx && c.exceptionTable.isEmpty && decide (c.maxStack ≤ mostOperands) && decide (meth.sig.returnType = rt) && !meth.locks && decide (parseMethodDescriptor y.desc = some meth.sig)) = true) : (Jvm.Cond.code y bytes mx rt).before a s = true := by
  simp only [Bool.and_eq_true, beq_iff_eq, Bool.not_eq_true', decide_eq_true_eq] at h5
  obtain ⟨⟨⟨⟨⟨g1, g2⟩, g3⟩, g4⟩, g5⟩, g6⟩ := h5
  simp [Cond.before, Cond.holds, Cond.value, h1, h2, h3, h4, g1, g2, g3, g4, g5, g6]
def isCode : Jvm.Cond → Bool
  | .code _ _ _ _ => true
  | _ => false
theorem all_split {L : List Jvm.Cond} {P : Jvm.Cond → Bool} (h1 : L.all (fun c => isCode c || P c) = true) (h2 : ∀ c ∈ L.filter isCode, P c = true) : L.all P = true := by
  refine List.all_eq_true.mpr fun c hc => ?_
  have h := List.all_eq_true.mp h1 c hc
  rcases Bool.eq_false_or_eq_true (isCode c) with hi | hi
  · exact h2 c (List.mem_filter.mpr ⟨hc, hi⟩)
  · simpa [hi] using h
set_option maxRecDepth 65536 in
theorem w_c0 : (Jvm.Cond.code x code maxLocals ret).before args0 about1 = true := code_word (m := ⟨1, 2⟩) (meth := k1m2) (c := k1c2) (by decide +kernel) rfl rfl rfl (by decide +kernel)
set_option maxRecDepth 65536 in
theorem w_c1 : (Jvm.Cond.code ({ cls := "com/example/ship_shore_exchange/shipshoreexchange/model/MsiStatusIsWithProviderPinLaw", name := "pick", desc := "(I)Lcom/example/ship_shore_exchange/shipshoreexchange/model/MsiStatus;" } : Jvm.MethodName) method_2_code (1 : Nat) (Option.some (Jvm.ClassFile.FieldType.object "com/example/ship_shore_exchange/shipshoreexchange/model/MsiStatus"))).before args0 about1 = true := code_word (m := ⟨1, 1⟩) (meth := k1m1) (c := k1c1) (by decide +kernel) rfl rfl rfl (by decide +kernel)
set_option maxRecDepth 65536 in
theorem w_c2 : (Jvm.Cond.code ({ cls := "com/example/ship_shore_exchange/shipshoreexchange/model/MsiStatus", name := "isWithProvider", desc := "()Z" } : Jvm.MethodName) prog_5_method_6_code (1 : Nat) (Option.some Jvm.ClassFile.FieldType.boolean)).before args0 about1 = true := code_word (m := ⟨6, 0⟩) (meth := k6m0) (c := k6c0) (by decide +kernel) rfl rfl rfl (by decide +kernel)
def codes1 : List Jvm.Cond := [Jvm.Cond.code x code maxLocals ret, Jvm.Cond.code ({ cls := "com/example/ship_shore_exchange/shipshoreexchange/model/MsiStatusIsWithProviderPinLaw", name := "pick", desc := "(I)Lcom/example/ship_shore_exchange/shipshoreexchange/model/MsiStatus;" } : Jvm.MethodName) method_2_code (1 : Nat) (Option.some (Jvm.ClassFile.FieldType.object "com/example/ship_shore_exchange/shipshoreexchange/model/MsiStatus")), Jvm.Cond.code ({ cls := "com/example/ship_shore_exchange/shipshoreexchange/model/MsiStatus", name := "isWithProvider", desc := "()Z" } : Jvm.MethodName) prog_5_method_6_code (1 : Nat) (Option.some Jvm.ClassFile.FieldType.boolean)]
set_option maxRecDepth 65536 in
theorem codes_eq : words1.filter isCode = codes1 := rfl
theorem w_codes : ∀ c ∈ words1.filter isCode, c.before args0 about1 = true := by
  rw [codes_eq]
  intro c hc
  simp only [codes1, List.mem_cons, List.not_mem_nil, or_false] at hc
  rcases hc with rfl | rfl | rfl
  · exact w_c0
  · exact w_c1
  · exact w_c2
set_option maxRecDepth 65536 in
theorem w_t1 : (words1.take 24).all (fun c => isCode c || c.before args0 about1) = true := by decide +kernel
set_option maxRecDepth 65536 in
theorem w_t2 : (words1.drop 24).all (fun c => isCode c || c.before args0 about1) = true := by decide +kernel
theorem w_tables : (allAtoms (Jvm.Cond.code x code maxLocals ret :: tables_1)).before args0 about1 = true := by
  rw [allAtoms_all]
  show words1.all (fun c => c.before args0 about1) = true
  refine all_split ?_ w_codes
  rw [← List.take_append_drop 24 words1, List.all_append, w_t1, w_t2]
  rfl
set_option maxRecDepth 65536 in
theorem w_case : (Jvm.Cond.and given_1 narrow_1).before args0 about1 = true := by decide +kernel
theorem w_applies : (headSpec (Jvm.Cond.code x code maxLocals ret :: tables_1) room_1).applies x e0.platform about1 = true :=
  (Spec.applies_iff w_frames).mpr ⟨w_running, w_runnable, w_alone, w_named, w_hears, w_ripe, w_room, w_tables⟩
theorem atStart : AtStart classFile x code maxLocals ret World_1 tables_1 room_1 Calls_1 rest_1 Pre_1 launch0 p0 e0 about1 theMethod args0 below0 :=
  ⟨lists_1, trivial, launch0.admits_env _ _ _, launch0.least_env, fairChoices_fair.cas, fairChoices_fair.clock, w_frames, w_args, w_heap, w_applies, trivial, trivial, w_case⟩
end start1
theorem witness_1 : WitnessClaimed_1 := ⟨start1.p0, start1.e0, start1.about1, start1.theMethod, start1.args0, start1.below0, start1.atStart⟩
end Jvm.Pilot.@@N@@
