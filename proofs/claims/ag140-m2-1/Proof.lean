import JvmDerived
import JvmDerived.Pilot.@@N@@Statement
import JvmDerived.Pilot.@@N@@Code
set_option linter.unusedVariables false
set_option linter.unusedSimpArgs false
namespace Jvm.Pilot.@@N@@
open Jvm Jvm.ClassFile Sem Op Lib Jvm.Free Jvm.Stand Jvm.LawKit Jvm.RoadKit Bundle Jvm.Pilot.@@N@@.Jvm.D
def own_Ends (tb : Tables) (e : Env) (below : List Frame) (P : Outcome → State → Prop) (S : State) : Prop := ∃ t o, Steps tb e below S t ∧ t.status = .running ∧ Ended t below o ∧ P o t
theorem own_to {tb : Tables} {e : Env} {below : List Frame} {P : Outcome → State → Prop} {S S' : State} (h : ∀ target, Steps tb e below S' target → Steps tb e below S target) (g : own_Ends tb e below P S') : own_Ends tb e below P S := by
  obtain ⟨t, o, h1, r⟩ := g
  exact ⟨t, o, h _ h1, r⟩
theorem own_tr {tb : Tables} {e : Env} {below : List Frame} {P : Outcome → State → Prop} {S S' : State} (h : Steps tb e below S S') (g : own_Ends tb e below P S') : own_Ends tb e below P S := by
  obtain ⟨t, o, h1, r⟩ := g
  exact ⟨t, o, h.trans h1, r⟩
theorem own_cast {tb : Tables} {e : Env} {below : List Frame} {P : Outcome → State → Prop} {T : State} {f f' : JFrame} (q : f = f') (g : own_Ends tb e below P (T.setTop f')) : own_Ends tb e below P (T.setTop f) := q ▸ g
def own_P (s : State) (Q : Option Value → Heap → List Loc → Prop) (ck sk : Nat) : Outcome → State → Prop := fun o U' => ∃ v L, o = .returned v ∧ Q v U'.heap L ∧ FrameEnd s o U' L ck sk
theorem own_leave {p : Program} {l : Launch} {e : Env} {R : Room} {s : State} {m : MethodId} {args : Array Value} {below : List Frame} {meth : Method} {c : Code} {T : State} {locs : List Loc} {cells slots : Nat} {F : JFrame} {Q : Option Value → Heap → List Loc → Prop} {ck sk : Nat}
    (X : Stand p l e R s m args below meth c T locs cells slots) {v : Option Value} (hv : meth.sig.returnType = none → v = none) (hQ : Q v T.heap locs) (hc : cells ≤ ck) (hs : slots ≤ sk)
    (hst : ∀ fs, (∀ (f : JFrame) (acts : List Action), f.method = m → f.locked = none → f.entered = [] → (doReturn e (T.setTop f) acts v).1 = T.setFrames fs) → Steps p.tables e below (T.setTop F) (T.setFrames fs)) (hlocks : meth.locks = false := by first | assumption | exact BodyLoose.notSynchronized (by assumption) | exact Body.notSynchronized (by assumption)) : own_Ends p.tables e below (own_P s Q ck sk) (T.setTop F) := by
  obtain ⟨fs, hr, hrun, hended, hW, hsame⟩ := X.leave hv hlocks
  exact ⟨_, _, hst fs hr, hrun, hended, _, _, rfl, hQ, ⟨_, rfl⟩, hW, hsame.mono hc hs⟩
def own_PW (s : State) (Q : Option Value → Heap → List Loc → Prop) (ck sk : Nat) : Outcome → State → Prop := fun o U' => ∃ v L, o = .returned v ∧ Q v U'.heap L ∧ ReturnedEndW s o U' L ck sk
theorem own_leaveW {p : Program} {l : Launch} {e : Env} {R : Room} {s : State} {vm1 : Vm} {m : MethodId} {args : Array Value} {below : List Frame} {meth : Method} {c : Code} {T : State} {locs : List Loc} {cells slots : Nat} {F : JFrame} {Q : Option Value → Heap → List Loc → Prop} {ck sk k0 : Nat}
    (X : Stand p l e R (s.setVm vm1) m args below meth c T locs cells slots) (hS : s.Since vm1 k0) (hk : k0 ≤ T.heap.size) {v : Option Value} (hv : meth.sig.returnType = none → v = none) (hQ : Q v T.heap locs) (hc : cells ≤ ck) (hs : slots ≤ sk)
    (hst : ∀ fs, (∀ (f : JFrame) (acts : List Action), f.method = m → f.locked = none → f.entered = [] → (doReturn e (T.setTop f) acts v).1 = T.setFrames fs) → Steps p.tables e below (T.setTop F) (T.setFrames fs)) (hlocks : meth.locks = false := by first | assumption | exact BodyLoose.notSynchronized (by assumption) | exact Body.notSynchronized (by assumption)) : own_Ends p.tables e below (own_PW s Q ck sk) (T.setTop F) := by
  obtain ⟨fs, hr, hrun, hended, h1, h2, h3, h4⟩ := X.leaveW hS hk hv hlocks
  exact ⟨_, _, hst fs hr, hrun, hended, _, _, rfl, hQ, h1, h2, h3, h4.mono hc hs⟩
theorem own_old_le {Z : State} {n0 : Nat} {h : Heap} (O : Old Z n0 h) : n0 ≤ h.size := O.1 ▸ O.2.1
theorem own_le {a b : Nat} (h : Nat.ble a b = true) : a ≤ b := Nat.le_of_ble_eq_true h
theorem own_lt {a b : Nat} (h : Nat.ble (a + 1) b = true) : a < b := Nat.le_of_ble_eq_true h
theorem own_irr (x : Int32) : ¬ x < x := by rw [Int32.lt_iff_toInt_lt]; omega
theorem own_eqI {args : Array Value} {s : State} {t : Term} {k : Int32} (h : (Jvm.Cond.eq t (.int k)).value args s none s [] = some true) : t.eval args s none [] s = some (.int k) := by
  obtain ⟨x, y, hx, hy, -, hk⟩ := cmp_v (Or.inl h)
  cases (show some (Value.int k) = some y from hy)
  obtain ⟨z, rfl⟩ := hk
  have e : (Term.int k).eval args s none [] s = some (.int k) := rfl
  simp only [Cond.value, hx, e, Option.some.injEq, decide_eq_true_eq] at h
  rw [hx]
  simp_all
theorem own_intne {a b : Int32} (h : a ≠ b) : Value.int a ≠ Value.int b := fun q => h (Value.int.inj q)

abbrev oM0 : MethodName := ⟨"com/example/quittance/quittance/book/RunSelection", "<init>", "(JZ)V"⟩
abbrev oM1 : MethodName := ⟨"com/example/quittance/quittance/book/RunSelection", "only", "(J)Lcom/example/quittance/quittance/book/RunSelection;"⟩
abbrev oM2 : MethodName := ⟨"com/example/quittance/quittance/book/RunSelection", "run", "()J"⟩
abbrev oM3 : MethodName := ⟨"com/example/quittance/quittance/book/RunSelection", "after", "()Z"⟩
abbrev oM4 : MethodName := ⟨"com/example/quittance/quittance/book/RunSelectionOnlyPinLaw", "toRun", "(J)J"⟩
theorem ow0 {Z : State} {a0 : Array Value} (hw : ∀ d ∈ tables_1, d.before a0 Z = true) : (Jvm.Cond.methodLink "com/example/quittance/quittance/book/RunSelectionOnlyPinLaw" (11 : Nat) ({ cls := "com/example/quittance/quittance/book/RunSelectionOnlyPinLaw", name := "toRun", desc := "(J)J" } : Jvm.MethodName)).before a0 Z = true := hw _ (List.mem_of_getElem? (i := 0) rfl)
theorem ow1 {Z : State} {a0 : Array Value} (hw : ∀ d ∈ tables_1, d.before a0 Z = true) : (Jvm.Cond.static ({ cls := "com/example/quittance/quittance/book/RunSelectionOnlyPinLaw", name := "toRun", desc := "(J)J" } : Jvm.MethodName)).before a0 Z = true := hw _ (List.mem_of_getElem? (i := 1) rfl)
theorem ow2 {Z : State} {a0 : Array Value} (hw : ∀ d ∈ tables_1, d.before a0 Z = true) : (Jvm.Cond.initialized "com/example/quittance/quittance/book/RunSelectionOnlyPinLaw").before a0 Z = true := hw _ (List.mem_of_getElem? (i := 2) rfl)
theorem ow3 {Z : State} {a0 : Array Value} (hw : ∀ d ∈ tables_1, d.before a0 Z = true) : (Jvm.Cond.code ({ cls := "com/example/quittance/quittance/book/RunSelectionOnlyPinLaw", name := "toRun", desc := "(J)J" } : Jvm.MethodName) method_2_code (4 : Nat) (Option.some Jvm.ClassFile.FieldType.long)).before a0 Z = true := hw _ (List.mem_of_getElem? (i := 3) rfl)
theorem ow4 {Z : State} {a0 : Array Value} (hw : ∀ d ∈ tables_1, d.before a0 Z = true) : (Jvm.Cond.constantLong "com/example/quittance/quittance/book/RunSelectionOnlyPinLaw" (9 : Nat) (9223372036854775807 : Int64)).before a0 Z = true := hw _ (List.mem_of_getElem? (i := 4) rfl)
theorem ow5 {Z : State} {a0 : Array Value} (hw : ∀ d ∈ tables_1, d.before a0 Z = true) : (Jvm.Cond.methodLink "com/example/quittance/quittance/book/RunSelectionOnlyPinLaw" (17 : Nat) ({ cls := "com/example/quittance/quittance/book/RunSelection", name := "only", desc := "(J)Lcom/example/quittance/quittance/book/RunSelection;" } : Jvm.MethodName)).before a0 Z = true := hw _ (List.mem_of_getElem? (i := 5) rfl)
theorem ow6 {Z : State} {a0 : Array Value} (hw : ∀ d ∈ tables_1, d.before a0 Z = true) : (Jvm.Cond.static ({ cls := "com/example/quittance/quittance/book/RunSelection", name := "only", desc := "(J)Lcom/example/quittance/quittance/book/RunSelection;" } : Jvm.MethodName)).before a0 Z = true := hw _ (List.mem_of_getElem? (i := 6) rfl)
theorem ow7 {Z : State} {a0 : Array Value} (hw : ∀ d ∈ tables_1, d.before a0 Z = true) : (Jvm.Cond.initialized "com/example/quittance/quittance/book/RunSelection").before a0 Z = true := hw _ (List.mem_of_getElem? (i := 7) rfl)
theorem ow8 {Z : State} {a0 : Array Value} (hw : ∀ d ∈ tables_1, d.before a0 Z = true) : (Jvm.Cond.code ({ cls := "com/example/quittance/quittance/book/RunSelection", name := "only", desc := "(J)Lcom/example/quittance/quittance/book/RunSelection;" } : Jvm.MethodName) prog_40_method_2_code (2 : Nat) (Option.some (Jvm.ClassFile.FieldType.object "com/example/quittance/quittance/book/RunSelection"))).before a0 Z = true := hw _ (List.mem_of_getElem? (i := 8) rfl)
theorem ow9 {Z : State} {a0 : Array Value} (hw : ∀ d ∈ tables_1, d.before a0 Z = true) : (Jvm.Cond.classLink "com/example/quittance/quittance/book/RunSelection" (8 : Nat) "com/example/quittance/quittance/book/RunSelection").before a0 Z = true := hw _ (List.mem_of_getElem? (i := 9) rfl)
theorem ow10 {Z : State} {a0 : Array Value} (hw : ∀ d ∈ tables_1, d.before a0 Z = true) : (Jvm.Cond.instantiable "com/example/quittance/quittance/book/RunSelection" (2 : Nat)).before a0 Z = true := hw _ (List.mem_of_getElem? (i := 10) rfl)
theorem ow11 {Z : State} {a0 : Array Value} (hw : ∀ d ∈ tables_1, d.before a0 Z = true) : (Jvm.Cond.methodLink "com/example/quittance/quittance/book/RunSelection" (26 : Nat) ({ cls := "com/example/quittance/quittance/book/RunSelection", name := "<init>", desc := "(JZ)V" } : Jvm.MethodName)).before a0 Z = true := hw _ (List.mem_of_getElem? (i := 11) rfl)
theorem ow12 {Z : State} {a0 : Array Value} (hw : ∀ d ∈ tables_1, d.before a0 Z = true) : (Jvm.Cond.instanceMethod ({ cls := "com/example/quittance/quittance/book/RunSelection", name := "<init>", desc := "(JZ)V" } : Jvm.MethodName)).before a0 Z = true := hw _ (List.mem_of_getElem? (i := 12) rfl)
theorem ow13 {Z : State} {a0 : Array Value} (hw : ∀ d ∈ tables_1, d.before a0 Z = true) : (Jvm.Cond.code ({ cls := "com/example/quittance/quittance/book/RunSelection", name := "<init>", desc := "(JZ)V" } : Jvm.MethodName) prog_40_method_1_code (4 : Nat) (Option.none : Option Jvm.ClassFile.FieldType)).before a0 Z = true := hw _ (List.mem_of_getElem? (i := 13) rfl)
theorem ow14 {Z : State} {a0 : Array Value} (hw : ∀ d ∈ tables_1, d.before a0 Z = true) : (Jvm.Cond.methodLink "com/example/quittance/quittance/book/RunSelection" (1 : Nat) ({ cls := "java/lang/Object", name := "<init>", desc := "()V" } : Jvm.MethodName)).before a0 Z = true := hw _ (List.mem_of_getElem? (i := 14) rfl)
theorem ow15 {Z : State} {a0 : Array Value} (hw : ∀ d ∈ tables_1, d.before a0 Z = true) : (Jvm.Cond.instanceMethod ({ cls := "java/lang/Object", name := "<init>", desc := "()V" } : Jvm.MethodName)).before a0 Z = true := hw _ (List.mem_of_getElem? (i := 15) rfl)
theorem ow16 {Z : State} {a0 : Array Value} (hw : ∀ d ∈ tables_1, d.before a0 Z = true) : (Jvm.Cond.code ({ cls := "java/lang/Object", name := "<init>", desc := "()V" } : Jvm.MethodName) object_method_1_code (1 : Nat) (Option.none : Option Jvm.ClassFile.FieldType)).before a0 Z = true := hw _ (List.mem_of_getElem? (i := 16) rfl)
theorem ow17 {Z : State} {a0 : Array Value} (hw : ∀ d ∈ tables_1, d.before a0 Z = true) : (Jvm.Cond.fieldLink "com/example/quittance/quittance/book/RunSelection" (7 : Nat) "com/example/quittance/quittance/book/RunSelection" "run" "J").before a0 Z = true := hw _ (List.mem_of_getElem? (i := 17) rfl)
theorem ow18 {Z : State} {a0 : Array Value} (hw : ∀ d ∈ tables_1, d.before a0 Z = true) : (Jvm.Cond.laysFinal "com/example/quittance/quittance/book/RunSelection" "com/example/quittance/quittance/book/RunSelection" "run" "J").before a0 Z = true := hw _ (List.mem_of_getElem? (i := 18) rfl)
theorem ow19 {Z : State} {a0 : Array Value} (hw : ∀ d ∈ tables_1, d.before a0 Z = true) : (Jvm.Cond.fieldLink "com/example/quittance/quittance/book/RunSelection" (13 : Nat) "com/example/quittance/quittance/book/RunSelection" "after" "Z").before a0 Z = true := hw _ (List.mem_of_getElem? (i := 19) rfl)
theorem ow20 {Z : State} {a0 : Array Value} (hw : ∀ d ∈ tables_1, d.before a0 Z = true) : (Jvm.Cond.laysFinal "com/example/quittance/quittance/book/RunSelection" "com/example/quittance/quittance/book/RunSelection" "after" "Z").before a0 Z = true := hw _ (List.mem_of_getElem? (i := 20) rfl)
theorem ow21 {Z : State} {a0 : Array Value} (hw : ∀ d ∈ tables_1, d.before a0 Z = true) : (Jvm.Cond.methodLink "com/example/quittance/quittance/book/RunSelectionOnlyPinLaw" (23 : Nat) ({ cls := "com/example/quittance/quittance/book/RunSelection", name := "run", desc := "()J" } : Jvm.MethodName)).before a0 Z = true := hw _ (List.mem_of_getElem? (i := 21) rfl)
theorem ow22 {Z : State} {a0 : Array Value} (hw : ∀ d ∈ tables_1, d.before a0 Z = true) : (Jvm.Cond.declares ({ cls := "com/example/quittance/quittance/book/RunSelection", name := "run", desc := "()J" } : Jvm.MethodName)).before a0 Z = true := hw _ (List.mem_of_getElem? (i := 22) rfl)
theorem ow23 {Z : State} {a0 : Array Value} (hw : ∀ d ∈ tables_1, d.before a0 Z = true) : (Jvm.Cond.instanceMethod ({ cls := "com/example/quittance/quittance/book/RunSelection", name := "run", desc := "()J" } : Jvm.MethodName)).before a0 Z = true := hw _ (List.mem_of_getElem? (i := 23) rfl)
theorem ow24 {Z : State} {a0 : Array Value} (hw : ∀ d ∈ tables_1, d.before a0 Z = true) : (Jvm.Cond.selects "com/example/quittance/quittance/book/RunSelection" ({ cls := "com/example/quittance/quittance/book/RunSelection", name := "run", desc := "()J" } : Jvm.MethodName) ({ cls := "com/example/quittance/quittance/book/RunSelection", name := "run", desc := "()J" } : Jvm.MethodName)).before a0 Z = true := hw _ (List.mem_of_getElem? (i := 24) rfl)
theorem ow25 {Z : State} {a0 : Array Value} (hw : ∀ d ∈ tables_1, d.before a0 Z = true) : (Jvm.Cond.code ({ cls := "com/example/quittance/quittance/book/RunSelection", name := "run", desc := "()J" } : Jvm.MethodName) prog_40_method_4_code (1 : Nat) (Option.some Jvm.ClassFile.FieldType.long)).before a0 Z = true := hw _ (List.mem_of_getElem? (i := 25) rfl)
theorem ow26 {Z : State} {a0 : Array Value} (hw : ∀ d ∈ tables_1, d.before a0 Z = true) : (Jvm.Cond.methodLink "com/example/quittance/quittance/book/RunSelectionOnlyPinLaw" (27 : Nat) ({ cls := "com/example/quittance/quittance/book/RunSelection", name := "after", desc := "()Z" } : Jvm.MethodName)).before a0 Z = true := hw _ (List.mem_of_getElem? (i := 26) rfl)
theorem ow27 {Z : State} {a0 : Array Value} (hw : ∀ d ∈ tables_1, d.before a0 Z = true) : (Jvm.Cond.declares ({ cls := "com/example/quittance/quittance/book/RunSelection", name := "after", desc := "()Z" } : Jvm.MethodName)).before a0 Z = true := hw _ (List.mem_of_getElem? (i := 27) rfl)
theorem ow28 {Z : State} {a0 : Array Value} (hw : ∀ d ∈ tables_1, d.before a0 Z = true) : (Jvm.Cond.instanceMethod ({ cls := "com/example/quittance/quittance/book/RunSelection", name := "after", desc := "()Z" } : Jvm.MethodName)).before a0 Z = true := hw _ (List.mem_of_getElem? (i := 28) rfl)
theorem ow29 {Z : State} {a0 : Array Value} (hw : ∀ d ∈ tables_1, d.before a0 Z = true) : (Jvm.Cond.selects "com/example/quittance/quittance/book/RunSelection" ({ cls := "com/example/quittance/quittance/book/RunSelection", name := "after", desc := "()Z" } : Jvm.MethodName) ({ cls := "com/example/quittance/quittance/book/RunSelection", name := "after", desc := "()Z" } : Jvm.MethodName)).before a0 Z = true := hw _ (List.mem_of_getElem? (i := 29) rfl)
theorem ow30 {Z : State} {a0 : Array Value} (hw : ∀ d ∈ tables_1, d.before a0 Z = true) : (Jvm.Cond.code ({ cls := "com/example/quittance/quittance/book/RunSelection", name := "after", desc := "()Z" } : Jvm.MethodName) prog_40_method_5_code (1 : Nat) (Option.some Jvm.ClassFile.FieldType.boolean)).before a0 Z = true := hw _ (List.mem_of_getElem? (i := 30) rfl)
theorem ow31 {Z : State} {a0 : Array Value} (hw : ∀ d ∈ tables_1, d.before a0 Z = true) : (Jvm.Cond.fieldLink "com/example/quittance/quittance/book/RunSelectionOnlyPinLaw" (31 : Nat) "com/example/quittance/quittance/book/RunSelection" "EVERY" "Lcom/example/quittance/quittance/book/RunSelection;").before a0 Z = true := hw _ (List.mem_of_getElem? (i := 31) rfl)
theorem ow32 {Z : State} {a0 : Array Value} (hw : ∀ d ∈ tables_1, d.before a0 Z = true) : (Jvm.Cond.laysStatic "com/example/quittance/quittance/book/RunSelection" "EVERY" "Lcom/example/quittance/quittance/book/RunSelection;").before a0 Z = true := hw _ (List.mem_of_getElem? (i := 32) rfl)
theorem own_eqL {args : Array Value} {s : State} {t : Term} {k : Int64} (h : (Jvm.Cond.eq t (.long k)).value args s none s [] = some true) : t.eval args s none [] s = some (.long k) := by
  obtain ⟨x, y, hx, hy, -, hk⟩ := cmp_v (Or.inl h)
  cases (show some (Value.long k) = some y from hy)
  obtain ⟨z, rfl⟩ := hk
  have e : (Term.long k).eval args s none [] s = some (.long k) := rfl
  simp only [Cond.value, hx, e, Option.some.injEq, decide_eq_true_eq] at h
  rw [hx]
  simp_all
theorem own_maskL (x : Int64) : ¬ (x &&& (9223372036854775807 : Int64)) < 0 := by
  have h := c_maskL x 9223372036854775807 63 (by decide) (by decide)
  rw [Int64.lt_iff_toInt_lt, h]
  show ¬ _ < (0 : Int)
  have := Int.emod_nonneg x.toInt (b := ((2 ^ 63 : Nat) : Int)) (by decide)
  omega
theorem d3_0 : decode prog_40_method_1_code 0 = .ok (.aload_n 0, 1) := by decide +kernel
theorem d3_1 : decode prog_40_method_1_code 1 = .ok (.invokespecial 1, 3) := by decide +kernel
theorem d3_4 : decode prog_40_method_1_code 4 = .ok (.aload_n 0, 1) := by decide +kernel
theorem d3_5 : decode prog_40_method_1_code 5 = .ok (.lload_n 1, 1) := by decide +kernel
theorem d3_6 : decode prog_40_method_1_code 6 = .ok (.putfield 7, 3) := by decide +kernel
theorem d3_9 : decode prog_40_method_1_code 9 = .ok (.aload_n 0, 1) := by decide +kernel
theorem d3_10 : decode prog_40_method_1_code 10 = .ok (.iload_n 3, 1) := by decide +kernel
theorem d3_11 : decode prog_40_method_1_code 11 = .ok (.putfield 13, 3) := by decide +kernel
theorem d3_14 : decode prog_40_method_1_code 14 = .ok (.return_, 1) := by decide +kernel
theorem pn_3 : plainName "com/example/quittance/quittance/book/RunSelection" = true := by first | (simp [plainName, overriddenIn]; done) | decide +kernel
theorem ef_rmI (m : MethodId) (a : Addr) (r : Int64) (t : Int32) : entryFrame m #[(.ref a), (.long r), (.int t)] 4 = mkF m 0 #[.val (.ref a), .val (.long r), .second, .val (.int t)] [] := by first | (simp [entryFrame, mkF, argsToLocals, Value.category]; done) | rfl | (rcases ref_cases hrf with rfl | ⟨q, rfl⟩ <;> rfl)
def Q_rmI (Z : State) (a : Addr) (r : Int64) (t : Int32)  (h0 : Heap) (n0 : Nat) (v : Option Value) (h : Heap) (L : List Loc) : Prop := v = none ∧ Fr n0 L ∧ Old Z n0 h ∧ Keep h0 h [a] ∧ Exa Z h a "com/example/quittance/quittance/book/RunSelection" ∧ Fld Z h a "com/example/quittance/quittance/book/RunSelection" "run" "J" (.long r) ∧ Fld Z h a "com/example/quittance/quittance/book/RunSelection" "after" "Z" (.int (nar .boolean t))
set_option maxRecDepth 65536 in
set_option maxHeartbeats 40000000 in
theorem rmI (l : Launch) (Z : State) (a0 : Array Value) (hw : ∀ d ∈ tables_1, d.before a0 Z = true) (ws : List Jvm.Cond) (a : Addr) (r : Int64) (t : Int32)  (h0 : Heap) (n0 : Nat) (O0 : Old Z n0 h0) (g_a : n0 ≤ a) (E_a : Exa Z h0 a "com/example/quittance/quittance/book/RunSelection") (F_run : Fld Z h0 a "com/example/quittance/quittance/book/RunSelection" "run" "J" (.long (0 : Int64))) (F_after : Fld Z h0 a "com/example/quittance/quittance/book/RunSelection" "after" "Z" (.int (0 : Int32))) :
    MetFree l oM0 (head1 (Jvm.Cond.code oM0 prog_40_method_1_code 4 none :: ws) ({ frames := 1, cells := 0, slots := 0, locals := 12 } : Room)) (fun aq_ U => aq_ = #[(.ref a), (.long r), (.int t)] ∧ Z.Warmed39 U.vm ∧ U.heap = h0) (fun _ _ _ _ _ => True) (fun _ U o U' => ∃ v L, o = .returned v ∧ Q_rmI Z a r t h0 n0 v U'.heap L ∧ FrameEnd U o U' L ({ frames := 1, cells := 0, slots := 0, locals := 12 } : Room).cells ({ frames := 1, cells := 0, slots := 0, locals := 12 } : Room).slots) := by
  refine MetFree.of_bodySF (plainFor_of_name pn_3) hisR ?_
  intro p e s m args below meth c s₁ Bd hml0 hP hK
  obtain ⟨rfl, hZ, hh⟩ := hP
  have hx := Bd.exec
  have hby := Bd.bytes
  have hml : c.maxLocals = 4 := hml0
  have hown : s.vm.findClass "com/example/quittance/quittance/book/RunSelection" = some m.cls := findClass_of_methodNamed Bd.named
  have hnm := (name_of_methodNamed Bd.named Bd.method).1
  have X0 : Stand p l e ({ frames := 1, cells := 0, slots := 0, locals := 12 } : Room) s m #[(.ref a), (.long r), (.int t)] below meth c s₁ [] 0 0 := Stand.of_body Bd
  have e0 : s₁.heap = h0 := by rw [← hh, Bd.state]; rfl
  have N0 := Fr.nil n0
  show own_Ends p.tables e below (own_P s (Q_rmI Z a r t h0 n0) ({ frames := 1, cells := 0, slots := 0, locals := 12 } : Room).cells ({ frames := 1, cells := 0, slots := 0, locals := 12 } : Room).slots) _
  refine own_cast (ef_rmI m a r t) ?_
  have K0 := Keep.refl h0 [a]
  show own_Ends _ _ _ _ (s₁.setTop (mkF m 0 #[.val (.ref a), .val (.long r), .second, .val (.int t)] []))
  refine own_to (fun _ kont => XS.aloadN X0.here hx rfl (hb hby d3_0) rfl rfl kont) ?_
  show own_Ends _ _ _ _ (s₁.setTop (mkF m 1 #[.val (.ref a), .val (.long r), .second, .val (.int t)] [(.ref a)]))
  obtain ⟨T1, X1, e1, st1⟩ := initO X0 hx hZ hown (ow14 hw) (ow15 hw) (ow16 hw) e0 (g := (mkF m 1 #[.val (.ref a), .val (.long r), .second, .val (.int t)] [(.ref a)])) rfl (by rw [hml]; rfl) rfl (hb hby d3_1) (by decide) (W := 0) (by show 2 * 0 + _ ≤ _; exact Nat.le_of_eq rfl) (by decide)
  refine own_to st1 ?_
  show own_Ends _ _ _ _ (T1.setTop (mkF m 4 #[.val (.ref a), .val (.long r), .second, .val (.int t)] []))
  refine own_to (fun _ kont => XS.aloadN X1.here hx rfl (hb hby d3_4) rfl rfl kont) ?_
  show own_Ends _ _ _ _ (T1.setTop (mkF m 5 #[.val (.ref a), .val (.long r), .second, .val (.int t)] [(.ref a)]))
  refine own_to (fun _ kont => XS.lloadN X1.here hx rfl (hb hby d3_5) rfl kont) ?_
  show own_Ends _ _ _ _ (T1.setTop (mkF m 6 #[.val (.ref a), .val (.long r), .second, .val (.int t)] [(.long r), (.ref a)]))
  obtain ⟨T2, h2, X2, e2, W2, st2⟩ := putF X1 hx hZ hown (host := "") (Or.inl (ow17 hw)) Via.refl e1 F_run E_a (Or.inr ⟨(ow18 hw), rfl, hnm⟩) (ow10 hw) (ty := .long) (by decide) rfl rfl (g := (mkF m 6 #[.val (.ref a), .val (.long r), .second, .val (.int t)] [(.long r), (.ref a)])) rfl rfl (hb hby d3_6)
  refine own_to st2 ?_
  have Fw2 : Fld Z h2 a "com/example/quittance/quittance/book/RunSelection" "run" "J" (.long r) := F_run.same W2
  have O2 := O0.wr W2 g_a
  have N2 := Fr.snoc X2 N0 g_a
  have K2 := K0.wr W2 (Or.inl (List.mem_of_getElem? (i := 0) rfl))
  show own_Ends _ _ _ _ (T2.setTop (mkF m 9 #[.val (.ref a), .val (.long r), .second, .val (.int t)] []))
  refine own_to (fun _ kont => XS.aloadN X2.here hx rfl (hb hby d3_9) rfl rfl kont) ?_
  show own_Ends _ _ _ _ (T2.setTop (mkF m 10 #[.val (.ref a), .val (.long r), .second, .val (.int t)] [(.ref a)]))
  refine own_to (fun _ kont => XS.iloadN X2.here hx rfl (hb hby d3_10) rfl kont) ?_
  show own_Ends _ _ _ _ (T2.setTop (mkF m 11 #[.val (.ref a), .val (.long r), .second, .val (.int t)] [(.int t), (.ref a)]))
  obtain ⟨T3, h3, X3, e3, W3, st3⟩ := putFN X2 hx hZ hown (ow19 hw) Via.refl e2 (F_after.other W2 (Or.inr (slot_ne (Or.inr (ow20 hw)) (Or.inr (ow18 hw)) (by decide) (t := .boolean) (t' := .long) (by decide) (by decide)))) (E_a.wr W2) (Or.inr ⟨(ow20 hw), rfl, hnm⟩) (ow10 hw) (ty := .boolean) (v' := (.int (nar .boolean t))) (by decide) rfl (fits_nar_bool _) (g := (mkF m 11 #[.val (.ref a), .val (.long r), .second, .val (.int t)] [(.int t), (.ref a)])) rfl rfl (hb hby d3_11)
  refine own_to st3 ?_
  have Fw3 : Fld Z h3 a "com/example/quittance/quittance/book/RunSelection" "after" "Z" (.int (nar .boolean t)) := (F_after.other W2 (Or.inr (slot_ne (Or.inr (ow20 hw)) (Or.inr (ow18 hw)) (by decide) (t := .boolean) (t' := .long) (by decide) (by decide)))).same W3
  have O3 := O2.wr W3 g_a
  have N3 := Fr.snoc X3 N2 g_a
  have K3 := K2.wr W3 (Or.inl (List.mem_of_getElem? (i := 0) rfl))
  show own_Ends _ _ _ _ (T3.setTop (mkF m 14 #[.val (.ref a), .val (.long r), .second, .val (.int t)] []))
  refine own_leave X3 (v := none) (fun _ => rfl) ?_ (by decide) (by decide) (fun fs hr => X3.returnOut hx Bd.returns (hb hby d3_14) hr)
  show Q_rmI Z a r t h0 n0 _ T3.heap _
  rw [e3]
  exact ⟨rfl, N3, O3, K3, ((E_a.wr W2).wr W3), (Fw2.other W3 (Or.inr (slot_ne (Or.inr (ow18 hw)) (Or.inr (ow20 hw)) (by decide) (t := .long) (t' := .boolean) (by decide) (by decide)))), Fw3⟩
theorem d2_0 : decode prog_40_method_2_code 0 = .ok (.lload_n 0, 1) := by decide +kernel
theorem d2_1 : decode prog_40_method_2_code 1 = .ok (.lconst 1, 1) := by decide +kernel
theorem d2_2 : decode prog_40_method_2_code 2 = .ok (.lcmp, 1) := by decide +kernel
theorem d2_3 : decode prog_40_method_2_code 3 = .ok (.ifCond .ge 17, 3) := by decide +kernel
theorem d2_20 : decode prog_40_method_2_code 20 = .ok (.new 8, 3) := by decide +kernel
theorem d2_23 : decode prog_40_method_2_code 23 = .ok (.dup, 1) := by decide +kernel
theorem d2_24 : decode prog_40_method_2_code 24 = .ok (.lload_n 0, 1) := by decide +kernel
theorem d2_25 : decode prog_40_method_2_code 25 = .ok (.iconst 0, 1) := by decide +kernel
theorem d2_26 : decode prog_40_method_2_code 26 = .ok (.invokespecial 26, 3) := by decide +kernel
theorem d2_29 : decode prog_40_method_2_code 29 = .ok (.areturn, 1) := by decide +kernel
theorem pn_2 : plainName "com/example/quittance/quittance/book/RunSelection" = true := by first | (simp [plainName, overriddenIn]; done) | decide +kernel
theorem pd_0 : parseMethodDescriptor "(JZ)V" = some ⟨[.long, .boolean], none⟩ := by decide +kernel
theorem ef_rmM (m : MethodId) (r : Int64) : entryFrame m #[(.long r)] 2 = mkF m 0 #[.val (.long r), .second] [] := by first | (simp [entryFrame, mkF, argsToLocals, Value.category]; done) | rfl | (rcases ref_cases hrf with rfl | ⟨q, rfl⟩ <;> rfl)
def Mk (Z : State) (r : Int64) (h0 : Heap) (n0 : Nat) (v : Option Value) (h : Heap) (L : List Loc) : Prop := ∃ b : Addr, v = some (.ref b) ∧ n0 ≤ b ∧ h0.size ≤ b ∧ Fr n0 L ∧ Old Z n0 h ∧ Keep h0 h [] ∧ Exa Z h b "com/example/quittance/quittance/book/RunSelection" ∧ Fld Z h b "com/example/quittance/quittance/book/RunSelection" "run" "J" (.long r) ∧ Fld Z h b "com/example/quittance/quittance/book/RunSelection" "after" "Z" (.int (0 : Int32))
def Q_rmM (Z : State) (r : Int64)  (h0 : Heap) (n0 : Nat) (v : Option Value) (h : Heap) (L : List Loc) : Prop := Mk Z r h0 n0 v h L
set_option maxRecDepth 65536 in
set_option maxHeartbeats 40000000 in
theorem rmM (l : Launch) (Z : State) (a0 : Array Value) (hw : ∀ d ∈ tables_1, d.before a0 Z = true) (ws : List Jvm.Cond) (r : Int64)  (h0 : Heap) (n0 : Nat) (O0 : Old Z n0 h0) (hr : ¬ r < (1 : Int64)) :
    MetFree l oM1 (head1 (Jvm.Cond.code oM1 prog_40_method_2_code 2 (some (.object "com/example/quittance/quittance/book/RunSelection")) :: ws) ({ frames := 2, cells := 1, slots := 2, locals := 31 } : Room)) (fun aq_ U => aq_ = #[(.long r)] ∧ Z.Warmed39 U.vm ∧ U.heap = h0) (fun _ _ _ _ _ => True) (fun _ U o U' => ∃ v L, o = .returned v ∧ Q_rmM Z r h0 n0 v U'.heap L ∧ FrameEnd U o U' L ({ frames := 2, cells := 1, slots := 2, locals := 31 } : Room).cells ({ frames := 2, cells := 1, slots := 2, locals := 31 } : Room).slots) := by
  refine MetFree.of_bodySF (plainFor_of_name pn_2) hisR ?_
  intro p e s m args below meth c s₁ Bd hml0 hP hK
  obtain ⟨rfl, hZ, hh⟩ := hP
  have hx := Bd.exec
  have hby := Bd.bytes
  have hml : c.maxLocals = 2 := hml0
  have hown : s.vm.findClass "com/example/quittance/quittance/book/RunSelection" = some m.cls := findClass_of_methodNamed Bd.named
  have hnm := (name_of_methodNamed Bd.named Bd.method).1
  have X0 : Stand p l e ({ frames := 2, cells := 1, slots := 2, locals := 31 } : Room) s m #[(.long r)] below meth c s₁ [] 0 0 := Stand.of_body Bd
  have e0 : s₁.heap = h0 := by rw [← hh, Bd.state]; rfl
  have N0 := Fr.nil n0
  show own_Ends p.tables e below (own_P s (Q_rmM Z r h0 n0) ({ frames := 2, cells := 1, slots := 2, locals := 31 } : Room).cells ({ frames := 2, cells := 1, slots := 2, locals := 31 } : Room).slots) _
  refine own_cast (ef_rmM m r) ?_
  have K0 := Keep.refl h0 []
  show own_Ends _ _ _ _ (s₁.setTop (mkF m 0 #[.val (.long r), .second] []))
  refine own_to (fun _ kont => XS.lloadN X0.here hx rfl (hb hby d2_0) rfl kont) ?_
  show own_Ends _ _ _ _ (s₁.setTop (mkF m 1 #[.val (.long r), .second] [(.long r)]))
  refine own_to (fun _ kont => XS.lconst X0.here hx rfl (hb hby d2_1) kont) ?_
  show own_Ends _ _ _ _ (s₁.setTop (mkF m 2 #[.val (.long r), .second] [(.long (1 : Int64)), (.long r)]))
  refine own_to (fun _ kont => XS.lcmp X0.here hx rfl (hb hby d2_2) rfl kont) ?_
  show own_Ends _ _ _ _ (s₁.setTop (mkF m 3 #[.val (.long r), .second] [(.int (lcmpW r (1 : Int64)))]))
  refine own_to (fun _ kont => XS.ifYes X0.here hx rfl (pc0 := 3) (pc' := 20) rfl (hb hby d2_3) rfl ((if0 _ _).trans (flt (fun q => absurd ((lw_lt _ _).mp q) hr)).2.1) (by decide) (by decide) kont) ?_
  show own_Ends _ _ _ _ (s₁.setTop (mkF m 20 #[.val (.long r), .second] []))
  obtain ⟨T1, h1, X1, e1, E1, A1, D1, U1, st1⟩ := newO X0 hx hZ hown (ow9 hw) (ow10 hw) (ow7 hw) e0 (g := (mkF m 20 #[.val (.long r), .second] [])) rfl (hb hby d2_20) (by decide) (by decide)
  obtain ⟨b1, g1⟩ : ∃ z, z = h0.size := ⟨_, rfl⟩
  rw [← g1] at A1 D1 st1
  have g_b1 : n0 ≤ b1 := Nat.le_trans (own_old_le O0) (Nat.le_of_eq g1.symm)
  have sz_b1 : h0.size ≤ b1 := Nat.le_trans K0.1 (Nat.le_of_eq g1.symm)
  refine own_to st1 ?_
  have O1 := O0.ext E1
  have K1 := K0.ext E1
  have Fd1_run : Fld Z h1 b1 "com/example/quittance/quittance/book/RunSelection" "run" "J" (.long (0 : Int64)) := D1 (Or.inr (ow18 hw)) (ty := .long) (by decide)
  have Fd1_after : Fld Z h1 b1 "com/example/quittance/quittance/book/RunSelection" "after" "Z" (.int (0 : Int32)) := D1 (Or.inr (ow20 hw)) (ty := .boolean) (by decide)
  show own_Ends _ _ _ _ (T1.setTop (mkF m 23 #[.val (.long r), .second] [(.ref b1)]))
  refine own_to (fun _ kont => XS.dup X1.here hx rfl (hb hby d2_23) rfl rfl kont) ?_
  show own_Ends _ _ _ _ (T1.setTop (mkF m 24 #[.val (.long r), .second] [(.ref b1), (.ref b1)]))
  refine own_to (fun _ kont => XS.lloadN X1.here hx rfl (hb hby d2_24) rfl kont) ?_
  show own_Ends _ _ _ _ (T1.setTop (mkF m 25 #[.val (.long r), .second] [(.long r), (.ref b1), (.ref b1)]))
  refine own_to (fun _ kont => XS.iconst X1.here hx rfl (hb hby d2_25) kont) ?_
  show own_Ends _ _ _ _ (T1.setTop (mkF m 26 #[.val (.long r), .second] [(.int 0), (.long r), (.ref b1), (.ref b1)]))
  obtain ⟨_, _, ⟨T2, L2, k2, n2⟩, -, X2, ⟨Lc2, hQ2, l2, y2, z2⟩, st2⟩ := X1.specialBack hx (y := oM0) rfl hown (mvT hZ (ow11 hw)) (mvT hZ (ow12 hw)) (mvT hZ (ow13 hw)) (by decide) (backOf (W := 1) (rmI l Z a0 hw [] b1 r (0 : Int32)  h1 n0 O1 g_b1 A1 Fd1_run Fd1_after) hZ (ow13 hw) (ow7 hw) (by decide) (by decide)) (g := (mkF m 26 #[.val (.long r), .second] [(.int (0 : Int32)), (.long r), (.ref b1), (.ref b1)])) rfl (by rw [hml]; rfl) (Steps.refl _) (a := b1) (argsL := [(.long r), (.int (0 : Int32))]) (rest := [(.ref b1)]) (lenOf pd_0 rfl) rfl (by show 2 * 0 + _ ≤ _; exact Nat.le_of_eq rfl) (hb hby d2_26) (fun _ _ => ⟨rfl, e1, (own_le rfl), (own_le rfl)⟩)
  dsimp only [Pt.U, Pt.locs, Pt.cells, Pt.slots] at X2 l2 y2 z2 st2 hQ2
  subst l2 y2 z2
  obtain ⟨rfl, N2q, Oq2, Kq2, Ex2, Fx2, Fy2⟩ := hQ2
  have N2 := Fr.app N0 N2q
  have KK2 := K1.trans Kq2 (allS (Or.inr sz_b1) all0)
  refine own_tr st2 ?_
  show own_Ends _ _ _ _ (T2.setTop (mkF m 29 #[.val (.long r), .second] [(.ref b1)]))
  refine own_leave X2 (v := some (.ref b1)) (fun h => by rw [Bd.returns] at h; cases h) ?_ (by decide) (by decide) (fun fs hr => retOut X2 hx Bd.returns rfl (Or.inr (Or.inr (Or.inr (Or.inr ⟨rfl, rfl, rfl⟩)))) (hb hby d2_29) hr)
  show Q_rmM Z r h0 n0 _ T2.heap _
  exact ⟨b1, rfl, g_b1, sz_b1, N2, Oq2, KK2, Ex2, Fx2, Fy2⟩
theorem d5_0 : decode prog_40_method_4_code 0 = .ok (.aload_n 0, 1) := by decide +kernel
theorem d5_1 : decode prog_40_method_4_code 1 = .ok (.getfield 7, 3) := by decide +kernel
theorem d5_4 : decode prog_40_method_4_code 4 = .ok (.lreturn, 1) := by decide +kernel
theorem pn_5 : plainName "com/example/quittance/quittance/book/RunSelection" = true := by first | (simp [plainName, overriddenIn]; done) | decide +kernel
theorem ef_rmR (m : MethodId) (a : Addr) : entryFrame m #[(.ref a)] 1 = mkF m 0 #[.val (.ref a)] [] := by first | (simp [entryFrame, mkF, argsToLocals, Value.category]; done) | rfl | (rcases ref_cases hrf with rfl | ⟨q, rfl⟩ <;> rfl)
def Q_rmR (Z : State) (a : Addr) (r : Int64) (h0 : Heap) (n0 : Nat) (v : Option Value) (h : Heap) (L : List Loc) : Prop := v = some (.long r) ∧ Fr n0 L ∧ h = h0
set_option maxRecDepth 65536 in
set_option maxHeartbeats 40000000 in
theorem rmR (l : Launch) (Z : State) (a0 : Array Value) (hw : ∀ d ∈ tables_1, d.before a0 Z = true) (ws : List Jvm.Cond) (a : Addr) (r : Int64) (h0 : Heap) (n0 : Nat) (O0 : Old Z n0 h0) (F_a : Fld Z h0 a "com/example/quittance/quittance/book/RunSelection" "run" "J" (.long r)) :
    MetFree l oM2 (head1 (Jvm.Cond.code oM2 prog_40_method_4_code 1 (some .long) :: ws) ({ frames := 0, cells := 0, slots := 0, locals := 0 } : Room)) (fun aq_ U => aq_ = #[(.ref a)] ∧ Z.Warmed39 U.vm ∧ U.heap = h0) (fun _ _ _ _ _ => True) (fun _ U o U' => ∃ v L, o = .returned v ∧ Q_rmR Z a r h0 n0 v U'.heap L ∧ FrameEnd U o U' L ({ frames := 0, cells := 0, slots := 0, locals := 0 } : Room).cells ({ frames := 0, cells := 0, slots := 0, locals := 0 } : Room).slots) := by
  refine MetFree.of_bodySF (plainFor_of_name pn_5) hisR ?_
  intro p e s m args below meth c s₁ Bd hml0 hP hK
  obtain ⟨rfl, hZ, hh⟩ := hP
  have hx := Bd.exec
  have hby := Bd.bytes
  have hml : c.maxLocals = 1 := hml0
  have hown : s.vm.findClass "com/example/quittance/quittance/book/RunSelection" = some m.cls := findClass_of_methodNamed Bd.named
  have hnm := (name_of_methodNamed Bd.named Bd.method).1
  have X0 : Stand p l e ({ frames := 0, cells := 0, slots := 0, locals := 0 } : Room) s m #[(.ref a)] below meth c s₁ [] 0 0 := Stand.of_body Bd
  have e0 : s₁.heap = h0 := by rw [← hh, Bd.state]; rfl
  have N0 := Fr.nil n0
  show own_Ends p.tables e below (own_P s (Q_rmR Z a r h0 n0) ({ frames := 0, cells := 0, slots := 0, locals := 0 } : Room).cells ({ frames := 0, cells := 0, slots := 0, locals := 0 } : Room).slots) _
  refine own_cast (ef_rmR m a) ?_
  show own_Ends _ _ _ _ (s₁.setTop (mkF m 0 #[.val (.ref a)] []))
  refine own_to (fun _ kont => XS.aloadN X0.here hx rfl (hb hby d5_0) rfl rfl kont) ?_
  show own_Ends _ _ _ _ (s₁.setTop (mkF m 1 #[.val (.ref a)] [(.ref a)]))
  obtain ⟨T1, X1, e1, st1⟩ := getF X0 hx hZ hown (host := "") (Or.inl (ow17 hw)) Via.refl e0 F_a (g := (mkF m 1 #[.val (.ref a)] [(.ref a)])) rfl rfl (hb hby d5_1)
  refine own_to st1 ?_
  show own_Ends _ _ _ _ (T1.setTop (mkF m 4 #[.val (.ref a)] [(.long r)]))
  refine own_leave X1 (v := some (.long r)) (fun h => by rw [Bd.returns] at h; cases h) ?_ (by decide) (by decide) (fun fs hr => retOut X1 hx Bd.returns rfl (Or.inr (Or.inl ⟨rfl, rfl, _, rfl⟩)) (hb hby d5_4) hr)
  show Q_rmR Z a r h0 n0 _ T1.heap _
  rw [e1]
  exact ⟨rfl, N0, rfl⟩
theorem d6_0 : decode prog_40_method_5_code 0 = .ok (.aload_n 0, 1) := by decide +kernel
theorem d6_1 : decode prog_40_method_5_code 1 = .ok (.getfield 13, 3) := by decide +kernel
theorem d6_4 : decode prog_40_method_5_code 4 = .ok (.ireturn, 1) := by decide +kernel
theorem pn_6 : plainName "com/example/quittance/quittance/book/RunSelection" = true := by first | (simp [plainName, overriddenIn]; done) | decide +kernel
theorem ef_rmA (m : MethodId) (a : Addr) : entryFrame m #[(.ref a)] 1 = mkF m 0 #[.val (.ref a)] [] := by first | (simp [entryFrame, mkF, argsToLocals, Value.category]; done) | rfl | (rcases ref_cases hrf with rfl | ⟨q, rfl⟩ <;> rfl)
def Q_rmA (Z : State) (a : Addr) (t : Int32) (h0 : Heap) (n0 : Nat) (v : Option Value) (h : Heap) (L : List Loc) : Prop := v = some (.int (nar .boolean t)) ∧ Fr n0 L ∧ h = h0
set_option maxRecDepth 65536 in
set_option maxHeartbeats 40000000 in
theorem rmA (l : Launch) (Z : State) (a0 : Array Value) (hw : ∀ d ∈ tables_1, d.before a0 Z = true) (ws : List Jvm.Cond) (a : Addr) (t : Int32) (h0 : Heap) (n0 : Nat) (O0 : Old Z n0 h0) (F_a : Fld Z h0 a "com/example/quittance/quittance/book/RunSelection" "after" "Z" (.int t)) :
    MetFree l oM3 (head1 (Jvm.Cond.code oM3 prog_40_method_5_code 1 (some .boolean) :: ws) ({ frames := 0, cells := 0, slots := 0, locals := 0 } : Room)) (fun aq_ U => aq_ = #[(.ref a)] ∧ Z.Warmed39 U.vm ∧ U.heap = h0) (fun _ _ _ _ _ => True) (fun _ U o U' => ∃ v L, o = .returned v ∧ Q_rmA Z a t h0 n0 v U'.heap L ∧ FrameEnd U o U' L ({ frames := 0, cells := 0, slots := 0, locals := 0 } : Room).cells ({ frames := 0, cells := 0, slots := 0, locals := 0 } : Room).slots) := by
  refine MetFree.of_bodySF (plainFor_of_name pn_6) hisR ?_
  intro p e s m args below meth c s₁ Bd hml0 hP hK
  obtain ⟨rfl, hZ, hh⟩ := hP
  have hx := Bd.exec
  have hby := Bd.bytes
  have hml : c.maxLocals = 1 := hml0
  have hown : s.vm.findClass "com/example/quittance/quittance/book/RunSelection" = some m.cls := findClass_of_methodNamed Bd.named
  have hnm := (name_of_methodNamed Bd.named Bd.method).1
  have X0 : Stand p l e ({ frames := 0, cells := 0, slots := 0, locals := 0 } : Room) s m #[(.ref a)] below meth c s₁ [] 0 0 := Stand.of_body Bd
  have e0 : s₁.heap = h0 := by rw [← hh, Bd.state]; rfl
  have N0 := Fr.nil n0
  show own_Ends p.tables e below (own_P s (Q_rmA Z a t h0 n0) ({ frames := 0, cells := 0, slots := 0, locals := 0 } : Room).cells ({ frames := 0, cells := 0, slots := 0, locals := 0 } : Room).slots) _
  refine own_cast (ef_rmA m a) ?_
  show own_Ends _ _ _ _ (s₁.setTop (mkF m 0 #[.val (.ref a)] []))
  refine own_to (fun _ kont => XS.aloadN X0.here hx rfl (hb hby d6_0) rfl rfl kont) ?_
  show own_Ends _ _ _ _ (s₁.setTop (mkF m 1 #[.val (.ref a)] [(.ref a)]))
  obtain ⟨T1, X1, e1, st1⟩ := getF X0 hx hZ hown (host := "") (Or.inl (ow19 hw)) Via.refl e0 F_a (g := (mkF m 1 #[.val (.ref a)] [(.ref a)])) rfl rfl (hb hby d6_1)
  refine own_to st1 ?_
  show own_Ends _ _ _ _ (T1.setTop (mkF m 4 #[.val (.ref a)] [(.int t)]))
  refine own_leave X1 (v := some (.int (nar .boolean t))) (fun h => by rw [Bd.returns] at h; cases h) ?_ (by decide) (by decide) (fun fs hr => retN X1 hx (t := .boolean) Bd.returns (by simp) (hb hby d6_4) hr)
  show Q_rmA Z a t h0 n0 _ T1.heap _
  rw [e1]
  exact ⟨rfl, N0, rfl⟩
def own_run (x : Int64) : Int64 := if (x &&& (9223372036854775807 : Int64)) = 0 then 1 else (x &&& (9223372036854775807 : Int64))
theorem own_run1 (x : Int64) : ¬ own_run x < 1 := by
  unfold own_run
  have h := own_maskL x
  split
  · decide
  · rename_i g
    rw [Int64.lt_iff_toInt_lt] at h ⊢
    rw [← Int64.toInt_inj] at g
    have e0 : (0 : Int64).toInt = 0 := by decide
    have e1 : (1 : Int64).toInt = 1 := by decide
    rw [e0] at h g
    rw [e1]
    omega
theorem d1_0 : decode method_2_code 0 = .ok (.lload_n 0, 1) := by decide +kernel
theorem d1_1 : decode method_2_code 1 = .ok (.ldc2_w 9, 3) := by decide +kernel
theorem d1_4 : decode method_2_code 4 = .ok (.land, 1) := by decide +kernel
theorem d1_5 : decode method_2_code 5 = .ok (.lstore_n 2, 1) := by decide +kernel
theorem d1_6 : decode method_2_code 6 = .ok (.lload_n 2, 1) := by decide +kernel
theorem d1_7 : decode method_2_code 7 = .ok (.lconst 0, 1) := by decide +kernel
theorem d1_8 : decode method_2_code 8 = .ok (.lcmp, 1) := by decide +kernel
theorem d1_9 : decode method_2_code 9 = .ok (.ifCond .ne 7, 3) := by decide +kernel
theorem d1_12 : decode method_2_code 12 = .ok (.lconst 1, 1) := by decide +kernel
theorem d1_13 : decode method_2_code 13 = .ok (.goto 4, 3) := by decide +kernel
theorem d1_16 : decode method_2_code 16 = .ok (.lload_n 2, 1) := by decide +kernel
theorem d1_17 : decode method_2_code 17 = .ok (.lreturn, 1) := by decide +kernel
theorem pn_1 : plainName "com/example/quittance/quittance/book/RunSelectionOnlyPinLaw" = true := by first | (simp [plainName, overriddenIn]; done) | decide +kernel
theorem ef_rmT (m : MethodId) (z : Int64) : entryFrame m #[(.long z)] 4 = mkF m 0 #[.val (.long z), .second, .unset, .unset] [] := by first | (simp [entryFrame, mkF, argsToLocals, Value.category]; done) | rfl | (rcases ref_cases hrf with rfl | ⟨q, rfl⟩ <;> rfl)
def Q_rmT (Z : State) (z : Int64)  (h0 : Heap) (n0 : Nat) (v : Option Value) (h : Heap) (L : List Loc) : Prop := v = some (.long (own_run z)) ∧ Fr n0 L ∧ h = h0
set_option maxRecDepth 65536 in
set_option maxHeartbeats 40000000 in
theorem rmT (l : Launch) (Z : State) (a0 : Array Value) (hw : ∀ d ∈ tables_1, d.before a0 Z = true) (ws : List Jvm.Cond) (z : Int64)  (h0 : Heap) (n0 : Nat) (O0 : Old Z n0 h0) :
    MetFree l oM4 (head1 (Jvm.Cond.code oM4 method_2_code 4 (some .long) :: ws) ({ frames := 0, cells := 0, slots := 0, locals := 0 } : Room)) (fun aq_ U => aq_ = #[(.long z)] ∧ Z.Warmed39 U.vm ∧ U.heap = h0) (fun _ _ _ _ _ => True) (fun _ U o U' => ∃ v L, o = .returned v ∧ Q_rmT Z z h0 n0 v U'.heap L ∧ FrameEnd U o U' L ({ frames := 0, cells := 0, slots := 0, locals := 0 } : Room).cells ({ frames := 0, cells := 0, slots := 0, locals := 0 } : Room).slots) := by
  refine MetFree.of_bodySF (plainFor_of_name pn_1) hisR ?_
  intro p e s m args below meth c s₁ Bd hml0 hP hK
  obtain ⟨rfl, hZ, hh⟩ := hP
  have hx := Bd.exec
  have hby := Bd.bytes
  have hml : c.maxLocals = 4 := hml0
  have hown : s.vm.findClass "com/example/quittance/quittance/book/RunSelectionOnlyPinLaw" = some m.cls := findClass_of_methodNamed Bd.named
  have hnm := (name_of_methodNamed Bd.named Bd.method).1
  have X0 : Stand p l e ({ frames := 0, cells := 0, slots := 0, locals := 0 } : Room) s m #[(.long z)] below meth c s₁ [] 0 0 := Stand.of_body Bd
  have e0 : s₁.heap = h0 := by rw [← hh, Bd.state]; rfl
  have N0 := Fr.nil n0
  show own_Ends p.tables e below (own_P s (Q_rmT Z z h0 n0) ({ frames := 0, cells := 0, slots := 0, locals := 0 } : Room).cells ({ frames := 0, cells := 0, slots := 0, locals := 0 } : Room).slots) _
  refine own_cast (ef_rmT m z) ?_
  show own_Ends _ _ _ _ (s₁.setTop (mkF m 0 #[.val (.long z), .second, .unset, .unset] []))
  refine own_to (fun _ kont => XS.lloadN X0.here hx rfl (hb hby d1_0) rfl kont) ?_
  show own_Ends _ _ _ _ (s₁.setTop (mkF m 1 #[.val (.long z), .second, .unset, .unset] [(.long z)]))
  refine own_to (X0.ldc2Long hx hown (mvT hZ (ow4 hw)) (g := (mkF m 1 #[.val (.long z), .second, .unset, .unset] [(.long z)])) rfl (hb hby d1_1)) ?_
  show own_Ends _ _ _ _ (s₁.setTop (mkF m 4 #[.val (.long z), .second, .unset, .unset] [(.long (9223372036854775807 : Int64)), (.long z)]))
  refine own_to (fun _ kont => XS.land X0.here hx rfl (hb hby d1_4) rfl kont) ?_
  show own_Ends _ _ _ _ (s₁.setTop (mkF m 5 #[.val (.long z), .second, .unset, .unset] [(.long (z &&& (9223372036854775807 : Int64)))]))
  refine own_to (fun _ kont => XS.lstoreN X0.here hx rfl (hb hby d1_5) rfl (l' := #[.val (.long z), .second, .val (.long (z &&& (9223372036854775807 : Int64))), .second]) rfl kont) ?_
  show own_Ends _ _ _ _ (s₁.setTop (mkF m 6 #[.val (.long z), .second, .val (.long (z &&& (9223372036854775807 : Int64))), .second] []))
  refine own_to (fun _ kont => XS.lloadN X0.here hx rfl (hb hby d1_6) rfl kont) ?_
  show own_Ends _ _ _ _ (s₁.setTop (mkF m 7 #[.val (.long z), .second, .val (.long (z &&& (9223372036854775807 : Int64))), .second] [(.long (z &&& (9223372036854775807 : Int64)))]))
  refine own_to (fun _ kont => XS.lconst X0.here hx rfl (hb hby d1_7) kont) ?_
  show own_Ends _ _ _ _ (s₁.setTop (mkF m 8 #[.val (.long z), .second, .val (.long (z &&& (9223372036854775807 : Int64))), .second] [(.long (0 : Int64)), (.long (z &&& (9223372036854775807 : Int64)))]))
  refine own_to (fun _ kont => XS.lcmp X0.here hx rfl (hb hby d1_8) rfl kont) ?_
  show own_Ends _ _ _ _ (s₁.setTop (mkF m 9 #[.val (.long z), .second, .val (.long (z &&& (9223372036854775807 : Int64))), .second] [(.int (lcmpW (z &&& (9223372036854775807 : Int64)) (0 : Int64)))]))
  by_cases hc9_1 : (z &&& (9223372036854775807 : Int64)) = (0 : Int64)
  · -- pc 9: (z &&& (9223372036854775807 : Int64)) = (0 : Int64)
    refine own_to (fun _ kont => XS.ifNo X0.here hx rfl (hb hby d1_9) rfl ((if0 _ _).trans (teq ((lw_eq _ _).mpr hc9_1)).2) kont) ?_
    show own_Ends _ _ _ _ (s₁.setTop (mkF m 12 #[.val (.long z), .second, .val (.long (z &&& (9223372036854775807 : Int64))), .second] []))
    refine own_to (fun _ kont => XS.lconst X0.here hx rfl (hb hby d1_12) kont) ?_
    show own_Ends _ _ _ _ (s₁.setTop (mkF m 13 #[.val (.long z), .second, .val (.long (z &&& (9223372036854775807 : Int64))), .second] [(.long (1 : Int64))]))
    refine own_to (fun _ kont => XS.goto X0.here hx rfl (pc0 := 13) (pc' := 17) rfl (hb hby d1_13) (by decide) (by decide) kont) ?_
    show own_Ends _ _ _ _ (s₁.setTop (mkF m 17 #[.val (.long z), .second, .val (.long (z &&& (9223372036854775807 : Int64))), .second] [(.long (1 : Int64))]))
    refine own_leave X0 (v := some (.long (1 : Int64))) (fun h => by rw [Bd.returns] at h; cases h) ?_ (by decide) (by decide) (fun fs hr => retOut X0 hx Bd.returns rfl (Or.inr (Or.inl ⟨rfl, rfl, _, rfl⟩)) (hb hby d1_17) hr)
    show Q_rmT Z z h0 n0 _ s₁.heap _
    rw [e0]
    exact ⟨by simp [own_run, *], N0, rfl⟩
  · -- pc 9: not (z &&& (9223372036854775807 : Int64)) = (0 : Int64)
    refine own_to (fun _ kont => XS.ifYes X0.here hx rfl (pc0 := 9) (pc' := 16) rfl (hb hby d1_9) rfl ((if0 _ _).trans (feq (fun q => absurd ((lw_eq _ _).mp q) hc9_1)).2) (by decide) (by decide) kont) ?_
    show own_Ends _ _ _ _ (s₁.setTop (mkF m 16 #[.val (.long z), .second, .val (.long (z &&& (9223372036854775807 : Int64))), .second] []))
    refine own_to (fun _ kont => XS.lloadN X0.here hx rfl (hb hby d1_16) rfl kont) ?_
    show own_Ends _ _ _ _ (s₁.setTop (mkF m 17 #[.val (.long z), .second, .val (.long (z &&& (9223372036854775807 : Int64))), .second] [(.long (z &&& (9223372036854775807 : Int64)))]))
    refine own_leave X0 (v := some (.long (z &&& (9223372036854775807 : Int64)))) (fun h => by rw [Bd.returns] at h; cases h) ?_ (by decide) (by decide) (fun fs hr => retOut X0 hx Bd.returns rfl (Or.inr (Or.inl ⟨rfl, rfl, _, rfl⟩)) (hb hby d1_17) hr)
    show Q_rmT Z z h0 n0 _ s₁.heap _
    rw [e0]
    exact ⟨by simp [own_run, *], N0, rfl⟩
theorem pn_0 : plainName "com/example/quittance/quittance/book/RunSelectionOnlyPinLaw" = true := by first | (simp [plainName, overriddenIn]; done) | decide +kernel
theorem pd_1 : parseMethodDescriptor "(J)J" = some ⟨[.long], some .long⟩ := by decide +kernel
theorem pd_2 : parseMethodDescriptor "(J)Lcom/example/quittance/quittance/book/RunSelection;" = some ⟨[.long], some (.object "com/example/quittance/quittance/book/RunSelection")⟩ := by decide +kernel
theorem pd_3 : parseMethodDescriptor "()J" = some ⟨[], some .long⟩ := by decide +kernel
theorem pd_4 : parseMethodDescriptor "()Z" = some ⟨[], some .boolean⟩ := by decide +kernel
theorem ef_rm0 (m : MethodId) (z1 : Int64) (z2 : Int64) : entryFrame m #[(.long z1), (.long z2)] maxLocals = mkF m 0 #[.val (.long z1), .second, .val (.long z2), .second, .unset, .unset, .unset, .unset, .unset, .unset] [] := by first | (simp [entryFrame, mkF, argsToLocals, Value.category, maxLocals]; done) | rfl | (rcases ref_cases hrf with rfl | ⟨q, rfl⟩ <;> rfl)
def Q_rm0 (Z : State) (z1 : Int64) (z2 : Int64) (ev : Addr) (h0 : Heap) (n0 : Nat) (v : Option Value) (h : Heap) (L : List Loc) : Prop := v = some (.int 1) ∧ Fr n0 L
set_option maxRecDepth 65536 in
set_option maxHeartbeats 40000000 in
theorem rm0 (l : Launch) (Z : State) (a0 : Array Value) (hw : ∀ d ∈ tables_1, d.before a0 Z = true) (ws : List Jvm.Cond) (z1 : Int64) (z2 : Int64) (ev : Addr) (h0 : Heap) (n0 : Nat) (O0 : Old Z n0 h0) (S_ev : Sta Z Z.heap "com/example/quittance/quittance/book/RunSelection" "EVERY" "Lcom/example/quittance/quittance/book/RunSelection;" (.ref ev)) (E_ev : Exa Z Z.heap ev "com/example/quittance/quittance/book/RunSelection") :
    MetFree l x (head1 (Jvm.Cond.code x code maxLocals ret :: ws) room_1) (fun aq_ U => aq_ = #[(.long z1), (.long z2)] ∧ Z.Warmed39 U.vm ∧ U.heap = h0) (fun _ _ _ _ _ => True) (fun _ U o U' => ∃ v L, o = .returned v ∧ Q_rm0 Z z1 z2 ev h0 n0 v U'.heap L ∧ FrameEnd U o U' L 16 128) := by
  refine MetFree.of_bodySF (plainFor_of_name pn_0) hisR ?_
  intro p e s m args below meth c s₁ Bd hml0 hP hK
  obtain ⟨rfl, hZ, hh⟩ := hP
  have hx := Bd.exec
  have hby := Bd.bytes
  have hml : c.maxLocals = 10 := hml0
  have hown : s.vm.findClass "com/example/quittance/quittance/book/RunSelectionOnlyPinLaw" = some m.cls := findClass_of_methodNamed Bd.named
  have hnm := (name_of_methodNamed Bd.named Bd.method).1
  have X0 : Stand p l e room_1 s m #[(.long z1), (.long z2)] below meth c s₁ [] 0 0 := Stand.of_body Bd
  have e0 : s₁.heap = h0 := by rw [← hh, Bd.state]; rfl
  have N0 := Fr.nil n0
  show own_Ends p.tables e below (own_P s (Q_rm0 Z z1 z2 ev h0 n0) 16 128) _
  refine own_cast (ef_rm0 m z1 z2) ?_
  show own_Ends _ _ _ _ (s₁.setTop (mkF m 0 #[.val (.long z1), .second, .val (.long z2), .second, .unset, .unset, .unset, .unset, .unset, .unset] []))
  refine own_to (fun _ kont => XS.lloadN X0.here hx rfl (hb hby at_0) rfl kont) ?_
  show own_Ends _ _ _ _ (s₁.setTop (mkF m 1 #[.val (.long z1), .second, .val (.long z2), .second, .unset, .unset, .unset, .unset, .unset, .unset] [(.long z1)]))
  obtain ⟨_, _, ⟨T1, L1, k1, n1⟩, -, X1, ⟨Lc1, hQ1, l1, y1, z1⟩, st1⟩ := Jvm.LawKit.callS X0 hx (y := oM4) hown (mvT hZ (ow0 hw)) (mvT hZ (ow1 hw)) (mvT hZ (ow2 hw)) (mvT hZ (ow3 hw)) (by decide) (backOf (W := 0) (rmT l Z a0 hw [] z1  h0 n0 O0 ) hZ (ow3 hw) (ow2 hw) (by decide) (by decide)) (g := (mkF m 1 #[.val (.long z1), .second, .val (.long z2), .second, .unset, .unset, .unset, .unset, .unset, .unset] [(.long z1)])) rfl (by rw [hml]; rfl) (argsL := [(.long z1)]) (rest := []) (lenOf pd_1 rfl) rfl (by show 2 * 0 + _ ≤ _; exact Nat.le_of_eq rfl) (hb hby at_1) (fun _ _ => ⟨rfl, e0, (own_le rfl), (own_le rfl)⟩)
  dsimp only [Pt.U, Pt.locs, Pt.cells, Pt.slots] at X1 l1 y1 z1 st1 hQ1
  subst l1 y1 z1
  obtain ⟨rfl, N1q, E1⟩ := hQ1
  have N1 := Fr.app N0 N1q
  refine own_to st1 ?_
  show own_Ends _ _ _ _ (T1.setTop (mkF m 4 #[.val (.long z1), .second, .val (.long z2), .second, .unset, .unset, .unset, .unset, .unset, .unset] [(.long (own_run z1))]))
  refine own_to (fun _ kont => XS.lstore X1.here hx rfl (hb hby at_4) rfl (l' := #[.val (.long z1), .second, .val (.long z2), .second, .val (.long (own_run z1)), .second, .unset, .unset, .unset, .unset]) rfl kont) ?_
  show own_Ends _ _ _ _ (T1.setTop (mkF m 6 #[.val (.long z1), .second, .val (.long z2), .second, .val (.long (own_run z1)), .second, .unset, .unset, .unset, .unset] []))
  refine own_to (fun _ kont => XS.lloadN X1.here hx rfl (hb hby at_6) rfl kont) ?_
  show own_Ends _ _ _ _ (T1.setTop (mkF m 7 #[.val (.long z1), .second, .val (.long z2), .second, .val (.long (own_run z1)), .second, .unset, .unset, .unset, .unset] [(.long z2)]))
  obtain ⟨_, _, ⟨T2, L2, k2, n2⟩, -, X2, ⟨Lc2, hQ2, l2, y2, z2⟩, st2⟩ := Jvm.LawKit.callS X1 hx (y := oM4) hown (mvT hZ (ow0 hw)) (mvT hZ (ow1 hw)) (mvT hZ (ow2 hw)) (mvT hZ (ow3 hw)) (by decide) (backOf (W := 0) (rmT l Z a0 hw [] z2  h0 n0 O0 ) hZ (ow3 hw) (ow2 hw) (by decide) (by decide)) (g := (mkF m 7 #[.val (.long z1), .second, .val (.long z2), .second, .val (.long (own_run z1)), .second, .unset, .unset, .unset, .unset] [(.long z2)])) rfl (by rw [hml]; rfl) (argsL := [(.long z2)]) (rest := []) (lenOf pd_1 rfl) rfl (by show 2 * 0 + _ ≤ _; exact Nat.le_of_eq rfl) (hb hby at_7) (fun _ _ => ⟨rfl, E1, (own_le rfl), (own_le rfl)⟩)
  dsimp only [Pt.U, Pt.locs, Pt.cells, Pt.slots] at X2 l2 y2 z2 st2 hQ2
  subst l2 y2 z2
  obtain ⟨rfl, N2q, E2⟩ := hQ2
  have N2 := Fr.app N1 N2q
  refine own_to st2 ?_
  show own_Ends _ _ _ _ (T2.setTop (mkF m 10 #[.val (.long z1), .second, .val (.long z2), .second, .val (.long (own_run z1)), .second, .unset, .unset, .unset, .unset] [(.long (own_run z2))]))
  refine own_to (fun _ kont => XS.lstore X2.here hx rfl (hb hby at_10) rfl (l' := #[.val (.long z1), .second, .val (.long z2), .second, .val (.long (own_run z1)), .second, .val (.long (own_run z2)), .second, .unset, .unset]) rfl kont) ?_
  show own_Ends _ _ _ _ (T2.setTop (mkF m 12 #[.val (.long z1), .second, .val (.long z2), .second, .val (.long (own_run z1)), .second, .val (.long (own_run z2)), .second, .unset, .unset] []))
  refine own_to (fun _ kont => XS.lload X2.here hx rfl (hb hby at_12) rfl kont) ?_
  show own_Ends _ _ _ _ (T2.setTop (mkF m 14 #[.val (.long z1), .second, .val (.long z2), .second, .val (.long (own_run z1)), .second, .val (.long (own_run z2)), .second, .unset, .unset] [(.long (own_run z1))]))
  obtain ⟨_, _, ⟨T3, L3, k3, n3⟩, -, X3, ⟨Lc3, hQ3, l3, y3, z3⟩, st3⟩ := Jvm.LawKit.callS X2 hx (y := oM1) hown (mvT hZ (ow5 hw)) (mvT hZ (ow6 hw)) (mvT hZ (ow7 hw)) (mvT hZ (ow8 hw)) (by decide) (backOf (W := 0) (rmM l Z a0 hw [] (own_run z1)  h0 n0 O0 (own_run1 z1)) hZ (ow8 hw) (ow7 hw) (by decide) (by decide)) (g := (mkF m 14 #[.val (.long z1), .second, .val (.long z2), .second, .val (.long (own_run z1)), .second, .val (.long (own_run z2)), .second, .unset, .unset] [(.long (own_run z1))])) rfl (by rw [hml]; rfl) (argsL := [(.long (own_run z1))]) (rest := []) (lenOf pd_2 rfl) rfl (by show 2 * 0 + _ ≤ _; exact Nat.le_of_eq rfl) (hb hby at_14) (fun _ _ => ⟨rfl, E2, (own_le rfl), (own_le rfl)⟩)
  dsimp only [Pt.U, Pt.locs, Pt.cells, Pt.slots] at X3 l3 y3 z3 st3 hQ3
  subst l3 y3 z3
  obtain ⟨u3, rfl, g_u3, sq_u3, N3q, Oq3, Kq3, Ex3, Fx3, Fy3⟩ := hQ3
  have N3 := Fr.app N2 N3q
  refine own_to st3 ?_
  show own_Ends _ _ _ _ (T3.setTop (mkF m 17 #[.val (.long z1), .second, .val (.long z2), .second, .val (.long (own_run z1)), .second, .val (.long (own_run z2)), .second, .unset, .unset] [(.ref u3)]))
  refine own_to (fun _ kont => XS.astore X3.here hx rfl (hb hby at_17) rfl rfl (l' := #[.val (.long z1), .second, .val (.long z2), .second, .val (.long (own_run z1)), .second, .val (.long (own_run z2)), .second, .val (.ref u3), .unset]) rfl kont) ?_
  show own_Ends _ _ _ _ (T3.setTop (mkF m 19 #[.val (.long z1), .second, .val (.long z2), .second, .val (.long (own_run z1)), .second, .val (.long (own_run z2)), .second, .val (.ref u3), .unset] []))
  refine own_to (fun _ kont => XS.lload X3.here hx rfl (hb hby at_19) rfl kont) ?_
  show own_Ends _ _ _ _ (T3.setTop (mkF m 21 #[.val (.long z1), .second, .val (.long z2), .second, .val (.long (own_run z1)), .second, .val (.long (own_run z2)), .second, .val (.ref u3), .unset] [(.long (own_run z2))]))
  obtain ⟨_, _, ⟨T4, L4, k4, n4⟩, -, X4, ⟨Lc4, hQ4, l4, y4, z4⟩, st4⟩ := Jvm.LawKit.callS X3 hx (y := oM1) hown (mvT hZ (ow5 hw)) (mvT hZ (ow6 hw)) (mvT hZ (ow7 hw)) (mvT hZ (ow8 hw)) (by decide) (backOf (W := 0) (rmM l Z a0 hw [] (own_run z2)  T3.heap n0 Oq3 (own_run1 z2)) hZ (ow8 hw) (ow7 hw) (by decide) (by decide)) (g := (mkF m 21 #[.val (.long z1), .second, .val (.long z2), .second, .val (.long (own_run z1)), .second, .val (.long (own_run z2)), .second, .val (.ref u3), .unset] [(.long (own_run z2))])) rfl (by rw [hml]; rfl) (argsL := [(.long (own_run z2))]) (rest := []) (lenOf pd_2 rfl) rfl (by show 2 * 0 + _ ≤ _; exact Nat.le_of_eq rfl) (hb hby at_21) (fun _ _ => ⟨rfl, rfl, (own_le rfl), (own_le rfl)⟩)
  dsimp only [Pt.U, Pt.locs, Pt.cells, Pt.slots] at X4 l4 y4 z4 st4 hQ4
  subst l4 y4 z4
  obtain ⟨u4, rfl, g_u4, sq_u4, N4q, Oq4, Kq4, Ex4, Fx4, Fy4⟩ := hQ4
  have N4 := Fr.app N3 N4q
  have ne_u3_u4 : u3 ≠ u4 := Nat.ne_of_lt (Nat.lt_of_lt_of_le Ex3.lt sq_u4)
  refine own_to st4 ?_
  show own_Ends _ _ _ _ (T4.setTop (mkF m 24 #[.val (.long z1), .second, .val (.long z2), .second, .val (.long (own_run z1)), .second, .val (.long (own_run z2)), .second, .val (.ref u3), .unset] [(.ref u4)]))
  refine own_to (fun _ kont => XS.astore X4.here hx rfl (hb hby at_24) rfl rfl (l' := #[.val (.long z1), .second, .val (.long z2), .second, .val (.long (own_run z1)), .second, .val (.long (own_run z2)), .second, .val (.ref u3), .val (.ref u4)]) rfl kont) ?_
  show own_Ends _ _ _ _ (T4.setTop (mkF m 26 #[.val (.long z1), .second, .val (.long z2), .second, .val (.long (own_run z1)), .second, .val (.long (own_run z2)), .second, .val (.ref u3), .val (.ref u4)] []))
  refine own_to (fun _ kont => XS.aload X4.here hx rfl (hb hby at_26) rfl rfl kont) ?_
  show own_Ends _ _ _ _ (T4.setTop (mkF m 28 #[.val (.long z1), .second, .val (.long z2), .second, .val (.long (own_run z1)), .second, .val (.long (own_run z2)), .second, .val (.ref u3), .val (.ref u4)] [(.ref u3)]))
  obtain ⟨cq5, kq5, q5a, q5b, q5c⟩ := isOf hZ rfl (Ex3.keep Kq4)
  obtain ⟨_, _, ⟨T5, L5, k5, n5⟩, -, X5, ⟨Lc5, hQ5, l5, y5, z5⟩, st5⟩ := X4.virtualBack hx (y := oM2) (z := oM2) hown (mvT hZ (ow21 hw)) (mvT hZ (ow22 hw)) (notFace_of_selects (args := #[]) (mvT hZ (ow24 hw))) (mvT hZ (ow24 hw)) (mvT hZ (ow23 hw)) (by decide) (backOf (W := 0) (rmR l Z a0 hw [] u3 (own_run z1) T4.heap n0 Oq4 (Fx3.keep Kq4 nin0)) hZ (ow25 hw) (ow7 hw) (by decide) (by decide)) q5a q5c (g := (mkF m 28 #[.val (.long z1), .second, .val (.long z2), .second, .val (.long (own_run z1)), .second, .val (.long (own_run z2)), .second, .val (.ref u3), .val (.ref u4)] [(.ref u3)])) rfl (by rw [hml]; rfl) (Steps.refl _) (argsL := []) (rest := []) (lenOf pd_3 rfl) rfl (by show 2 * 0 + _ ≤ _; exact Nat.le_of_eq rfl) (hb hby at_28) (fun _ _ => ⟨rfl, rfl, (own_le rfl), (own_le rfl)⟩)
  dsimp only [Pt.U, Pt.locs, Pt.cells, Pt.slots] at X5 l5 y5 z5 st5 hQ5
  subst l5 y5 z5
  obtain ⟨rfl, N5q, E5⟩ := hQ5
  have N5 := Fr.app N4 N5q
  refine own_tr st5 ?_
  show own_Ends _ _ _ _ (T5.setTop (mkF m 31 #[.val (.long z1), .second, .val (.long z2), .second, .val (.long (own_run z1)), .second, .val (.long (own_run z2)), .second, .val (.ref u3), .val (.ref u4)] [(.long (own_run z1))]))
  refine own_to (fun _ kont => XS.lload X5.here hx rfl (hb hby at_31) rfl kont) ?_
  show own_Ends _ _ _ _ (T5.setTop (mkF m 33 #[.val (.long z1), .second, .val (.long z2), .second, .val (.long (own_run z1)), .second, .val (.long (own_run z2)), .second, .val (.ref u3), .val (.ref u4)] [(.long (own_run z1)), (.long (own_run z1))]))
  refine own_to (fun _ kont => XS.lcmp X5.here hx rfl (hb hby at_33) rfl kont) ?_
  show own_Ends _ _ _ _ (T5.setTop (mkF m 34 #[.val (.long z1), .second, .val (.long z2), .second, .val (.long (own_run z1)), .second, .val (.long (own_run z2)), .second, .val (.ref u3), .val (.ref u4)] [(.int (lcmpW (own_run z1) (own_run z1)))]))
  refine own_to (fun _ kont => XS.ifNo X5.here hx rfl (hb hby at_34) rfl ((if0 _ _).trans (teq ((lw_eq _ _).mpr rfl)).2) kont) ?_
  show own_Ends _ _ _ _ (T5.setTop (mkF m 37 #[.val (.long z1), .second, .val (.long z2), .second, .val (.long (own_run z1)), .second, .val (.long (own_run z2)), .second, .val (.ref u3), .val (.ref u4)] []))
  refine own_to (fun _ kont => XS.aload X5.here hx rfl (hb hby at_37) rfl rfl kont) ?_
  show own_Ends _ _ _ _ (T5.setTop (mkF m 39 #[.val (.long z1), .second, .val (.long z2), .second, .val (.long (own_run z1)), .second, .val (.long (own_run z2)), .second, .val (.ref u3), .val (.ref u4)] [(.ref u3)]))
  obtain ⟨cq6, kq6, q6a, q6b, q6c⟩ := isOf hZ E5 (Ex3.keep Kq4)
  obtain ⟨_, _, ⟨T6, L6, k6, n6⟩, -, X6, ⟨Lc6, hQ6, l6, y6, z6⟩, st6⟩ := X5.virtualBack hx (y := oM3) (z := oM3) hown (mvT hZ (ow26 hw)) (mvT hZ (ow27 hw)) (notFace_of_selects (args := #[]) (mvT hZ (ow29 hw))) (mvT hZ (ow29 hw)) (mvT hZ (ow28 hw)) (by decide) (backOf (W := 0) (rmA l Z a0 hw [] u3 (0 : Int32) T4.heap n0 Oq4 (Fy3.keep Kq4 nin0)) hZ (ow30 hw) (ow7 hw) (by decide) (by decide)) q6a q6c (g := (mkF m 39 #[.val (.long z1), .second, .val (.long z2), .second, .val (.long (own_run z1)), .second, .val (.long (own_run z2)), .second, .val (.ref u3), .val (.ref u4)] [(.ref u3)])) rfl (by rw [hml]; rfl) (Steps.refl _) (argsL := []) (rest := []) (lenOf pd_4 rfl) rfl (by show 2 * 0 + _ ≤ _; exact Nat.le_of_eq rfl) (hb hby at_39) (fun _ _ => ⟨rfl, E5, (own_le rfl), (own_le rfl)⟩)
  dsimp only [Pt.U, Pt.locs, Pt.cells, Pt.slots] at X6 l6 y6 z6 st6 hQ6
  subst l6 y6 z6
  obtain ⟨rfl, N6q, E6⟩ := hQ6
  have N6 := Fr.app N5 N6q
  refine own_tr st6 ?_
  show own_Ends _ _ _ _ (T6.setTop (mkF m 42 #[.val (.long z1), .second, .val (.long z2), .second, .val (.long (own_run z1)), .second, .val (.long (own_run z2)), .second, .val (.ref u3), .val (.ref u4)] [(.int 0)]))
  refine own_to (fun _ kont => XS.ifNo X6.here hx rfl (hb hby at_42) rfl ((if0 _ _).trans (teq (by decide)).2) kont) ?_
  show own_Ends _ _ _ _ (T6.setTop (mkF m 45 #[.val (.long z1), .second, .val (.long z2), .second, .val (.long (own_run z1)), .second, .val (.long (own_run z2)), .second, .val (.ref u3), .val (.ref u4)] []))
  refine own_to (fun _ kont => XS.aload X6.here hx rfl (hb hby at_45) rfl rfl kont) ?_
  show own_Ends _ _ _ _ (T6.setTop (mkF m 47 #[.val (.long z1), .second, .val (.long z2), .second, .val (.long (own_run z1)), .second, .val (.long (own_run z2)), .second, .val (.ref u3), .val (.ref u4)] [(.ref u4)]))
  obtain ⟨cq7, kq7, q7a, q7b, q7c⟩ := isOf hZ E6 Ex4
  obtain ⟨_, _, ⟨T7, L7, k7, n7⟩, -, X7, ⟨Lc7, hQ7, l7, y7, z7⟩, st7⟩ := X6.virtualBack hx (y := oM2) (z := oM2) hown (mvT hZ (ow21 hw)) (mvT hZ (ow22 hw)) (notFace_of_selects (args := #[]) (mvT hZ (ow24 hw))) (mvT hZ (ow24 hw)) (mvT hZ (ow23 hw)) (by decide) (backOf (W := 0) (rmR l Z a0 hw [] u4 (own_run z2) T4.heap n0 Oq4 Fx4) hZ (ow25 hw) (ow7 hw) (by decide) (by decide)) q7a q7c (g := (mkF m 47 #[.val (.long z1), .second, .val (.long z2), .second, .val (.long (own_run z1)), .second, .val (.long (own_run z2)), .second, .val (.ref u3), .val (.ref u4)] [(.ref u4)])) rfl (by rw [hml]; rfl) (Steps.refl _) (argsL := []) (rest := []) (lenOf pd_3 rfl) rfl (by show 2 * 0 + _ ≤ _; exact Nat.le_of_eq rfl) (hb hby at_47) (fun _ _ => ⟨rfl, E6, (own_le rfl), (own_le rfl)⟩)
  dsimp only [Pt.U, Pt.locs, Pt.cells, Pt.slots] at X7 l7 y7 z7 st7 hQ7
  subst l7 y7 z7
  obtain ⟨rfl, N7q, E7⟩ := hQ7
  have N7 := Fr.app N6 N7q
  refine own_tr st7 ?_
  show own_Ends _ _ _ _ (T7.setTop (mkF m 50 #[.val (.long z1), .second, .val (.long z2), .second, .val (.long (own_run z1)), .second, .val (.long (own_run z2)), .second, .val (.ref u3), .val (.ref u4)] [(.long (own_run z2))]))
  refine own_to (fun _ kont => XS.lload X7.here hx rfl (hb hby at_50) rfl kont) ?_
  show own_Ends _ _ _ _ (T7.setTop (mkF m 52 #[.val (.long z1), .second, .val (.long z2), .second, .val (.long (own_run z1)), .second, .val (.long (own_run z2)), .second, .val (.ref u3), .val (.ref u4)] [(.long (own_run z2)), (.long (own_run z2))]))
  refine own_to (fun _ kont => XS.lcmp X7.here hx rfl (hb hby at_52) rfl kont) ?_
  show own_Ends _ _ _ _ (T7.setTop (mkF m 53 #[.val (.long z1), .second, .val (.long z2), .second, .val (.long (own_run z1)), .second, .val (.long (own_run z2)), .second, .val (.ref u3), .val (.ref u4)] [(.int (lcmpW (own_run z2) (own_run z2)))]))
  refine own_to (fun _ kont => XS.ifNo X7.here hx rfl (hb hby at_53) rfl ((if0 _ _).trans (teq ((lw_eq _ _).mpr rfl)).2) kont) ?_
  show own_Ends _ _ _ _ (T7.setTop (mkF m 56 #[.val (.long z1), .second, .val (.long z2), .second, .val (.long (own_run z1)), .second, .val (.long (own_run z2)), .second, .val (.ref u3), .val (.ref u4)] []))
  refine own_to (fun _ kont => XS.aload X7.here hx rfl (hb hby at_56) rfl rfl kont) ?_
  show own_Ends _ _ _ _ (T7.setTop (mkF m 58 #[.val (.long z1), .second, .val (.long z2), .second, .val (.long (own_run z1)), .second, .val (.long (own_run z2)), .second, .val (.ref u3), .val (.ref u4)] [(.ref u4)]))
  obtain ⟨cq8, kq8, q8a, q8b, q8c⟩ := isOf hZ E7 Ex4
  obtain ⟨_, _, ⟨T8, L8, k8, n8⟩, -, X8, ⟨Lc8, hQ8, l8, y8, z8⟩, st8⟩ := X7.virtualBack hx (y := oM3) (z := oM3) hown (mvT hZ (ow26 hw)) (mvT hZ (ow27 hw)) (notFace_of_selects (args := #[]) (mvT hZ (ow29 hw))) (mvT hZ (ow29 hw)) (mvT hZ (ow28 hw)) (by decide) (backOf (W := 0) (rmA l Z a0 hw [] u4 (0 : Int32) T4.heap n0 Oq4 Fy4) hZ (ow30 hw) (ow7 hw) (by decide) (by decide)) q8a q8c (g := (mkF m 58 #[.val (.long z1), .second, .val (.long z2), .second, .val (.long (own_run z1)), .second, .val (.long (own_run z2)), .second, .val (.ref u3), .val (.ref u4)] [(.ref u4)])) rfl (by rw [hml]; rfl) (Steps.refl _) (argsL := []) (rest := []) (lenOf pd_4 rfl) rfl (by show 2 * 0 + _ ≤ _; exact Nat.le_of_eq rfl) (hb hby at_58) (fun _ _ => ⟨rfl, E7, (own_le rfl), (own_le rfl)⟩)
  dsimp only [Pt.U, Pt.locs, Pt.cells, Pt.slots] at X8 l8 y8 z8 st8 hQ8
  subst l8 y8 z8
  obtain ⟨rfl, N8q, E8⟩ := hQ8
  have N8 := Fr.app N7 N8q
  refine own_tr st8 ?_
  show own_Ends _ _ _ _ (T8.setTop (mkF m 61 #[.val (.long z1), .second, .val (.long z2), .second, .val (.long (own_run z1)), .second, .val (.long (own_run z2)), .second, .val (.ref u3), .val (.ref u4)] [(.int 0)]))
  refine own_to (fun _ kont => XS.ifNo X8.here hx rfl (hb hby at_61) rfl ((if0 _ _).trans (teq (by decide)).2) kont) ?_
  show own_Ends _ _ _ _ (T8.setTop (mkF m 64 #[.val (.long z1), .second, .val (.long z2), .second, .val (.long (own_run z1)), .second, .val (.long (own_run z2)), .second, .val (.ref u3), .val (.ref u4)] []))
  refine own_to (fun _ kont => XS.aload X8.here hx rfl (hb hby at_64) rfl rfl kont) ?_
  show own_Ends _ _ _ _ (T8.setTop (mkF m 66 #[.val (.long z1), .second, .val (.long z2), .second, .val (.long (own_run z1)), .second, .val (.long (own_run z2)), .second, .val (.ref u3), .val (.ref u4)] [(.ref u3)]))
  obtain ⟨T9, X9, e9, st9⟩ := getS2 X8 hx hZ hown (host := "") (Or.inl (ow31 hw)) Via.refl E8 (S_ev.ext Oq4.2) (g := (mkF m 66 #[.val (.long z1), .second, .val (.long z2), .second, .val (.long (own_run z1)), .second, .val (.long (own_run z2)), .second, .val (.ref u3), .val (.ref u4)] [(.ref u3)])) rfl (hb hby at_66)
  refine own_to st9 ?_
  show own_Ends _ _ _ _ (T9.setTop (mkF m 69 #[.val (.long z1), .second, .val (.long z2), .second, .val (.long (own_run z1)), .second, .val (.long (own_run z2)), .second, .val (.ref u3), .val (.ref u4)] [(.ref ev), (.ref u3)]))
  refine own_to (fun _ kont => Jvm.RoadKit.acmp (g := (mkF m 69 #[.val (.long z1), .second, .val (.long z2), .second, .val (.long (own_run z1)), .second, .val (.long (own_run z2)), .second, .val (.ref u3), .val (.ref u4)] [(.ref ev), (.ref u3)])) X9 hx rfl rfl rfl (pc0 := 69) (pc' := 72) (same := false) rfl (hb hby at_69) rfl (decide_eq_false fun q => (Ne.symm (Oq4.ne E_ev.lt g_u3)) (Value.ref.inj q)) (by decide) (by decide) kont) ?_
  show own_Ends _ _ _ _ (T9.setTop (mkF m 72 #[.val (.long z1), .second, .val (.long z2), .second, .val (.long (own_run z1)), .second, .val (.long (own_run z2)), .second, .val (.ref u3), .val (.ref u4)] []))
  refine own_to (fun _ kont => XS.iconst X9.here hx rfl (hb hby at_72) kont) ?_
  show own_Ends _ _ _ _ (T9.setTop (mkF m 73 #[.val (.long z1), .second, .val (.long z2), .second, .val (.long (own_run z1)), .second, .val (.long (own_run z2)), .second, .val (.ref u3), .val (.ref u4)] [(.int 1)]))
  refine own_to (fun _ kont => XS.goto X9.here hx rfl (pc0 := 73) (pc' := 77) rfl (hb hby at_73) (by decide) (by decide) kont) ?_
  show own_Ends _ _ _ _ (T9.setTop (mkF m 77 #[.val (.long z1), .second, .val (.long z2), .second, .val (.long (own_run z1)), .second, .val (.long (own_run z2)), .second, .val (.ref u3), .val (.ref u4)] [(.int 1)]))
  refine own_leave X9 (v := some (.int (1 : Int32))) (fun h => by rw [Bd.returns] at h; cases h) ?_ (by decide) (by decide) (fun fs hr => retN X9 hx (t := .boolean) Bd.returns (by simp) (hb hby at_77) hr)
  show Q_rm0 Z z1 z2 ev h0 n0 _ T9.heap _
  rw [e9]
  exact ⟨rfl, N8⟩
set_option maxRecDepth 65536 in
set_option maxHeartbeats 40000000 in
theorem comes_1 {Post : Tables → Env → Array Value → State → Outcome → State → Prop} (hpost : ∀ tb e args s v u, (limb_1_1.after args s (.returned v) u = true ∧ limb_1_2.after args s (.returned v) u = true ∧ True) → FrameEnd s (.returned v) u (Jvm.fieldLocs frame_1_writes args s ++ Jvm.arrayLocs frame_1_arrays args s ++ Jvm.staticLocs frame_1_statics s) 16 128 → Post tb e args s (.returned v) u) :
    ArmFor flags0 classFile x code maxLocals ret World_1 tables_1 room_1 Calls_1 rest_1 Pre_1 Post := by
  intro l hfl _ _ p e ha hc hk s m args below hf hA hF happ hP
  obtain ⟨hcalls, hrest, hpre⟩ := hP
  obtain ⟨-, -, -, hnamed, -, -, -, hat⟩ := (Spec.applies_iff hf).mp happ
  obtain ⟨hg, hn⟩ := and_e (Cond.before_iff.mp (show (Jvm.Cond.and given_1 narrow_1).before args s = true from hpre))
  obtain ⟨gc0, hg0⟩ := and_e hg
  obtain ⟨gc1, hg1⟩ := and_e hg0
  have gc2 := hg1
  have nc0 := hn
  obtain ⟨w0, w1, rfl⟩ : ∃ w0 w1 : Value, args = #[w0, w1] := by
    have hs : args.size = 2 := by simpa [Cond.value, given_1] using gc0
    obtain ⟨L⟩ := args
    match L, hs with
    | [w0, w1], _ => exact ⟨w0, w1, rfl⟩
  have hw := fun d (hd : d ∈ tables_1) => atoms_spec (ws := Jvm.Cond.code x code maxLocals ret :: tables_1) hat d (List.mem_cons_of_mem _ hd)
  have hfit : Fit s := fun {y c} hc i hi => by
    obtain ⟨ha, rfl⟩ := Array.getElem?_eq_some_iff.mp hc
    have q := List.all_eq_true.mp ((Array.all_eq_true_iff_forall_mem.mp hF) _ (Array.getElem_mem ha)) i (List.mem_range.mpr hi)
    simpa [Array.getElem?_eq_getElem hi] using q
  obtain ⟨i0, ei0⟩ := isL_v gc1
  obtain rfl : w0 = (.long i0) := Option.some.inj ei0
  obtain ⟨i1, ei1⟩ := isL_v gc2
  obtain rfl : w1 = (.long i1) := Option.some.inj ei1
  obtain ⟨ev, ev_ev⟩ := exa_v nc0
  have E_ev : Exa s s.heap ev "com/example/quittance/quittance/book/RunSelection" := Exa.start ev_ev nc0
  have S_ev : Sta s s.heap "com/example/quittance/quittance/book/RunSelection" "EVERY" "Lcom/example/quittance/quittance/book/RunSelection;" (.ref ev) := Sta.start ev_ev (Or.inr ⟨(ow7 hw), (ow32 hw)⟩)
  obtain ⟨n, o, h1, h2, h3, _, L, rfl, ⟨rfl, N⟩, hq⟩ := rm0 l s _ hw tables_1 i0 i1 ev s.heap s.heap.size (Old.start s) S_ev E_ev p e ha hc hk s m _ below hf ((Spec.applies_iff_loose hf).mp happ).1 ⟨rfl, State.Warmed39.refl s, rfl⟩ trivial
  refine ⟨n, _, h1, h2, h3, hpost _ _ _ _ _ _ ⟨Cond.after_iff.mpr rfl, Cond.after_iff.mpr (eq_i res_at (Term.int_eval (1)) rfl), trivial⟩ ⟨hq.1, hq.2.1, (hq.2.2.sift fun y hy => Or.inr (N y hy)).mono (by decide) (by decide)⟩⟩
theorem main_1_1 : Claimed_1_1 := comes_1 fun _ _ _ _ _ _ h hF => ⟨h.1, hF⟩
theorem main_1_2 : Claimed_1_2 := comes_1 fun _ _ _ _ _ _ h hF => ⟨h.2.1, hF⟩
end Jvm.Pilot.@@N@@
namespace Jvm.Pilot.@@N@@
open Jvm Jvm.ClassFile Sem Op Lib Jvm.Free Jvm.Stand Jvm.Pilot.@@N@@.Jvm.D
/-! MADE BY PROGRAM (witnessworld.py) out of the Statement's table words and the real class files: 9 classes; the members and pool entries that the words name. The judged class is class 1, her method 2. -/
namespace start1
open Jvm.ClassFile
def u (s : String) : CpInfo := .utf8 (stringToUtf16 s)
/-- a pool by its gaps: so many unusable entries, then the entry; so many at the end -/
def gap : Nat → List CpInfo → List CpInfo
  | 0, r => r
  | n + 1, r => .unusable :: gap n r
def poolList (es : List (Nat × CpInfo)) (last : Nat) : List CpInfo := es.foldr (fun e r => gap e.1 (e.2 :: r)) (gap last [])
def pool (es : List (Nat × CpInfo)) (last : Nat) : Array CpInfo := ⟨poolList es last⟩
def fileOf (pool : Array CpInfo) (this : Nat) (attrs : Array Attribute := #[]) (ms : Array MethodInfo := #[]) (fl : Nat := 33) (sup : Nat := 0) (ifs : Array Nat := #[]) (fds : Array FieldInfo := #[]) : ClassFile where
  minorVersion := 0
  majorVersion := 65
  constantPool := pool
  accessFlags := fl
  thisClass := this
  superClass := sup
  interfaces := ifs
  fields := fds
  methods := ms
  attributes := attrs
def plain (name : String) (sup : Option ClassId) : Class where
  name := name
  kind := .ordinary
  loader := none
  accessFlags := 33
  super := sup
  interfaces := #[]
  cf := none
  fields := #[]
  methods := #[]
  instanceTypes := #[]
  staticTypes := #[]
  resolved := #[]
  callSites := []
  init := .initialized
  statics := none
  mirror := none

def pool0 : Array CpInfo := pool [(5, u "<init>"), (0, u "()V"), (1, .class_ 10), (1, u "java/lang/Object")] 113

def k0c0 : Code := { maxStack := 0, maxLocals := 1, code := object_method_1_code, exceptionTable := #[], attributes := #[] }
def k0m0 : Method := { name := "<init>", desc := "()V", sig := { parameters := [], returnType := none }, accessFlags := 1, code := some k0c0 }
/-- java/lang/Object -/
def k0 : Class := { plain "java/lang/Object" none with
  accessFlags := 33
  interfaces := #[]
  cf := some (fileOf pool0 8 #[] #[{ accessFlags := 1, nameIndex := 5, descriptorIndex := 6, attributes := #[] }] 33 0 #[] #[])
  fields := #[]
  methods := #[k0m0]
  instanceTypes := #[]
  staticTypes := #[]
  resolved := Array.replicate 124 none
  statics := none }

def pool1 : Array CpInfo := pool [(2, .class_ 4), (1, u "java/lang/Object"), (0, u "<init>"), (0, u "()V"), (2, .long 9223372036854775807), (1, .methodref 12 13), (0, .class_ 14), (0, .nameAndType 15 16), (0, u "com/example/quittance/quittance/book/RunSelectionOnlyPinLaw"), (0, u "toRun"), (0, u "(J)J"), (0, .methodref 18 19), (0, .class_ 20), (0, .nameAndType 21 22), (0, u "com/example/quittance/quittance/book/RunSelection"), (0, u "only"), (0, u "(J)Lcom/example/quittance/quittance/book/RunSelection;"), (0, .methodref 18 24), (0, .nameAndType 25 26), (0, u "run"), (0, u "()J"), (0, .methodref 18 28), (0, .nameAndType 29 30), (0, u "after"), (0, u "()Z"), (0, .fieldref 18 32), (0, .nameAndType 33 34), (0, u "EVERY"), (0, u "Lcom/example/quittance/quittance/book/RunSelection;"), (3, u "law"), (0, u "(JJ)Z")] 2

def k1m0 : Method := { name := "<init>", desc := "()V", sig := { parameters := [], returnType := none }, accessFlags := 1, code := none }
def k1c1 : Code := { maxStack := 4, maxLocals := 4, code := method_2_code, exceptionTable := #[], attributes := #[] }
def k1m1 : Method := { name := "toRun", desc := "(J)J", sig := { parameters := [.long], returnType := some .long }, accessFlags := 10, code := some k1c1 }
def k1c2 : Code := { maxStack := 4, maxLocals := 10, code := code, exceptionTable := #[], attributes := #[] }
def k1m2 : Method := { name := "law", desc := "(JJ)Z", sig := { parameters := [.long, .long], returnType := some .boolean }, accessFlags := 9, code := some k1c2 }
/-- com/example/quittance/quittance/book/RunSelectionOnlyPinLaw -/
def k1 : Class := { plain "com/example/quittance/quittance/book/RunSelectionOnlyPinLaw" (some 0) with
  accessFlags := 49
  interfaces := #[]
  cf := some (fileOf pool1 12 #[] #[{ accessFlags := 1, nameIndex := 5, descriptorIndex := 6, attributes := #[] }, { accessFlags := 10, nameIndex := 15, descriptorIndex := 16, attributes := #[] }, { accessFlags := 9, nameIndex := 38, descriptorIndex := 39, attributes := #[] }] 49 2 #[] #[])
  fields := #[]
  methods := #[k1m0, k1m1, k1m2]
  instanceTypes := #[]
  staticTypes := #[]
  resolved := Array.replicate 42 none
  statics := none }

def pool2 : Array CpInfo := pool [(1, .methodref 2 3), (0, .class_ 4), (0, .nameAndType 5 6), (0, u "java/lang/Object"), (0, u "<init>"), (0, u "()V"), (0, .fieldref 8 9), (0, .class_ 10), (0, .nameAndType 11 12), (0, u "com/example/quittance/quittance/book/RunSelection"), (0, u "run"), (0, u "J"), (0, .fieldref 8 14), (0, .nameAndType 15 16), (0, u "after"), (0, u "Z"), (9, .methodref 8 27), (0, .nameAndType 5 28), (0, u "(JZ)V"), (3, u "EVERY"), (0, u "Lcom/example/quittance/quittance/book/RunSelection;"), (2, u "only"), (0, u "(J)Lcom/example/quittance/quittance/book/RunSelection;"), (1, u "()J"), (0, u "()Z")] 20

def k2c0 : Code := { maxStack := 3, maxLocals := 4, code := prog_40_method_1_code, exceptionTable := #[], attributes := #[] }
def k2m0 : Method := { name := "<init>", desc := "(JZ)V", sig := { parameters := [.long, .boolean], returnType := none }, accessFlags := 2, code := some k2c0 }
def k2c1 : Code := { maxStack := 5, maxLocals := 2, code := prog_40_method_2_code, exceptionTable := #[], attributes := #[] }
def k2m1 : Method := { name := "only", desc := "(J)Lcom/example/quittance/quittance/book/RunSelection;", sig := { parameters := [.long], returnType := some (.object "com/example/quittance/quittance/book/RunSelection") }, accessFlags := 9, code := some k2c1 }
def k2c2 : Code := { maxStack := 2, maxLocals := 1, code := prog_40_method_4_code, exceptionTable := #[], attributes := #[] }
def k2m2 : Method := { name := "run", desc := "()J", sig := { parameters := [], returnType := some .long }, accessFlags := 0, code := some k2c2 }
def k2c3 : Code := { maxStack := 1, maxLocals := 1, code := prog_40_method_5_code, exceptionTable := #[], attributes := #[] }
def k2m3 : Method := { name := "after", desc := "()Z", sig := { parameters := [], returnType := some .boolean }, accessFlags := 0, code := some k2c3 }
/-- com/example/quittance/quittance/book/RunSelection -/
def k2 : Class := { plain "com/example/quittance/quittance/book/RunSelection" (some 0) with
  accessFlags := 49
  interfaces := #[]
  cf := some (fileOf pool2 8 #[] #[{ accessFlags := 2, nameIndex := 5, descriptorIndex := 28, attributes := #[] }, { accessFlags := 9, nameIndex := 36, descriptorIndex := 37, attributes := #[] }, { accessFlags := 0, nameIndex := 11, descriptorIndex := 39, attributes := #[] }, { accessFlags := 0, nameIndex := 15, descriptorIndex := 40, attributes := #[] }] 49 2 #[] #[{ accessFlags := 25, nameIndex := 32, descriptorIndex := 33, attributes := #[] }, { accessFlags := 18, nameIndex := 11, descriptorIndex := 12, attributes := #[] }, { accessFlags := 18, nameIndex := 15, descriptorIndex := 16, attributes := #[] }])
  fields := #[{ name := "EVERY", type := (.object "com/example/quittance/quittance/book/RunSelection"), accessFlags := 25, slot := 0, constantValue := 0 }, { name := "run", type := .long, accessFlags := 18, slot := 0, constantValue := 0 }, { name := "after", type := .boolean, accessFlags := 18, slot := 1, constantValue := 0 }]
  methods := #[k2m0, k2m1, k2m2, k2m3]
  instanceTypes := #[.long, .boolean]
  staticTypes := #[(.object "com/example/quittance/quittance/book/RunSelection")]
  resolved := Array.replicate 61 none
  statics := some 0 }

def pool3 : Array CpInfo := pool [(1, u "java/lang/Cloneable"), (0, .class_ 1), (0, u "java/lang/Object"), (0, .class_ 3)] 3

/-- java/lang/Cloneable -/
def k3 : Class := { plain "java/lang/Cloneable" (some 0) with
  accessFlags := 1537
  interfaces := #[]
  cf := some (fileOf pool3 2 #[] #[] 1537 4 #[] #[])
  fields := #[]
  methods := #[]
  instanceTypes := #[]
  staticTypes := #[]
  resolved := Array.replicate 8 none
  statics := none }

def pool4 : Array CpInfo := pool [(1, u "java/io/Serializable"), (0, .class_ 1), (0, u "java/lang/Object"), (0, .class_ 3)] 3

/-- java/io/Serializable -/
def k4 : Class := { plain "java/io/Serializable" (some 0) with
  accessFlags := 1537
  interfaces := #[]
  cf := some (fileOf pool4 2 #[] #[] 1537 4 #[] #[])
  fields := #[]
  methods := #[]
  instanceTypes := #[]
  staticTypes := #[]
  resolved := Array.replicate 8 none
  statics := none }

/-- the primitive byte -/
def k5 : Class := { plain "byte" none with kind := .primitive 'B', accessFlags := 0x411 }
/-- [B -/
def k6 : Class := { plain "[B" (some 0) with kind := .array 5 .byte, interfaces := #[3, 4], accessFlags := 1041 }

/-- the primitive int -/
def k7 : Class := { plain "int" none with kind := .primitive 'I', accessFlags := 0x411 }
/-- [I -/
def k8 : Class := { plain "[I" (some 0) with kind := .array 7 .int, interfaces := #[3, 4], accessFlags := 1041 }

def heap : Heap := #[{ cls := 2, slots := #[.ref 1], vm := .statics 2 },
  { cls := 2, slots := #[.long 0, .int 0], vm := .none }]
def classes : Array Class := #[k0, k1, k2, k3, k4, k5, k6, k7, k8]
def interned : List (Array UInt16 × Addr) := []
def slotsUsed : Nat := 3
def theMethod : MethodId := ⟨1, 2⟩
def args0 : Array Value := #[.long 5, .long 7]
def aboutOver (below : List Frame) : State where
  vm := { classes := classes, interned := interned.toArray }
  heap := heap
  slotsUsed := slotsUsed
  threads := #[{ frames := .invoking theMethod args0 :: below }]
def below0 : List Frame := [.native { method := ⟨0, 0⟩, args := #[] }]
def about1 : State := aboutOver below0
def p0 : Program := .bare "" "" ""
def e0 : Env := launch0.env 0 0 0
theorem w_frames : about1.frames = Frame.invoking theMethod args0 :: below0 := rfl
set_option maxRecDepth 65536 in
theorem w_args : argsFit about1.vm theMethod args0 = true := by decide +kernel
set_option maxRecDepth 65536 in
theorem w_heap : heapFits about1 = true := by decide +kernel
set_option maxRecDepth 65536 in
theorem w_runnable : about1.curStatus? = some .runnable := by decide +kernel
set_option maxRecDepth 65536 in
theorem w_alone : about1.alone = true := by decide +kernel
set_option maxRecDepth 65536 in
theorem w_named : about1.methodNamed? x = some theMethod := by decide +kernel
set_option maxRecDepth 65536 in
theorem w_hears : about1.hears theMethod below0 = true := by decide +kernel
set_option maxRecDepth 65536 in
theorem w_ripe : about1.ripe theMethod args0 below0 = true := by decide +kernel
theorem w_running : about1.status = .running := rfl
set_option maxRecDepth 65536 in
theorem w_room : about1.hasRoom e0.platform room_1 = true :=
  launch0.hasRoom_least _ room_1 (by decide +kernel) (by decide +kernel) (by decide +kernel) (by decide +kernel) (by decide +kernel) (by decide +kernel)
theorem allAtoms_all (ts : List Jvm.Cond) (a : Array Jvm.Value) (st : Jvm.State) : (allAtoms ts).before a st = ts.all (fun c => c.before a st) := by
  induction ts with
  | nil => rfl
  | cons c t ih =>
    show (Jvm.Cond.and c (allAtoms t)).before a st = _
    rw [Jvm.Cond.before_and, ih, List.all_cons]
def words1 : List Jvm.Cond := Jvm.Cond.code x code maxLocals ret :: tables_1
/-- a 'code' word, met by the world's own term for the bytes: nothing is compared byte by byte -/
theorem code_word {y : MethodName} {bytes : ByteArray} {mx : Nat} {rt : Option FieldType} {a : Array Value} {s : State} {m : MethodId} {meth : Method} {c : Code} (h1 : s.methodNamed? y = some m) (h2 : s.vm.method? m = some meth) (h3 : meth.code = some c) (h4 : c.code = bytes)
    (h5 : (c.maxLocals == mx && c.exceptionTable.isEmpty && decide (c.maxStack ≤ mostOperands) && decide (meth.sig.returnType = rt) && !meth.locks && decide (parseMethodDescriptor y.desc = some meth.sig)) = true) : (Jvm.Cond.code y bytes mx rt).before a s = true := by
  simp only [Bool.and_eq_true, beq_iff_eq, Bool.not_eq_true', decide_eq_true_eq] at h5
  obtain ⟨⟨⟨⟨⟨g1, g2⟩, g3⟩, g4⟩, g5⟩, g6⟩ := h5
  simp [Cond.before, Cond.holds, Cond.value, h1, h2, h3, h4, g1, g2, g3, g4, g5, g6]
def isCode : Jvm.Cond → Bool
  | .code _ _ _ _ => true
  | _ => false
theorem all_split {L : List Jvm.Cond} {P : Jvm.Cond → Bool} (h1 : L.all (fun c => isCode c || P c) = true) (h2 : ∀ c ∈ L.filter isCode, P c = true) : L.all P = true := by
  refine List.all_eq_true.mpr fun c hc => ?_
  have h := List.all_eq_true.mp h1 c hc
  rcases Bool.eq_false_or_eq_true (isCode c) with hi | hi
  · exact h2 c (List.mem_filter.mpr ⟨hc, hi⟩)
  · simpa [hi] using h
set_option maxRecDepth 65536 in
theorem w_c0 : (Jvm.Cond.code x code maxLocals ret).before args0 about1 = true := code_word (m := ⟨1, 2⟩) (meth := k1m2) (c := k1c2) (by decide +kernel) rfl rfl rfl (by decide +kernel)
set_option maxRecDepth 65536 in
theorem w_c1 : (Jvm.Cond.code ({ cls := "com/example/quittance/quittance/book/RunSelectionOnlyPinLaw", name := "toRun", desc := "(J)J" } : Jvm.MethodName) method_2_code (4 : Nat) (Option.some Jvm.ClassFile.FieldType.long)).before args0 about1 = true := code_word (m := ⟨1, 1⟩) (meth := k1m1) (c := k1c1) (by decide +kernel) rfl rfl rfl (by decide +kernel)
set_option maxRecDepth 65536 in
theorem w_c2 : (Jvm.Cond.code ({ cls := "com/example/quittance/quittance/book/RunSelection", name := "only", desc := "(J)Lcom/example/quittance/quittance/book/RunSelection;" } : Jvm.MethodName) prog_40_method_2_code (2 : Nat) (Option.some (Jvm.ClassFile.FieldType.object "com/example/quittance/quittance/book/RunSelection"))).before args0 about1 = true := code_word (m := ⟨2, 1⟩) (meth := k2m1) (c := k2c1) (by decide +kernel) rfl rfl rfl (by decide +kernel)
set_option maxRecDepth 65536 in
theorem w_c3 : (Jvm.Cond.code ({ cls := "com/example/quittance/quittance/book/RunSelection", name := "<init>", desc := "(JZ)V" } : Jvm.MethodName) prog_40_method_1_code (4 : Nat) (Option.none : Option Jvm.ClassFile.FieldType)).before args0 about1 = true := code_word (m := ⟨2, 0⟩) (meth := k2m0) (c := k2c0) (by decide +kernel) rfl rfl rfl (by decide +kernel)
set_option maxRecDepth 65536 in
theorem w_c4 : (Jvm.Cond.code ({ cls := "java/lang/Object", name := "<init>", desc := "()V" } : Jvm.MethodName) object_method_1_code (1 : Nat) (Option.none : Option Jvm.ClassFile.FieldType)).before args0 about1 = true := code_word (m := ⟨0, 0⟩) (meth := k0m0) (c := k0c0) (by decide +kernel) rfl rfl rfl (by decide +kernel)
set_option maxRecDepth 65536 in
theorem w_c5 : (Jvm.Cond.code ({ cls := "com/example/quittance/quittance/book/RunSelection", name := "run", desc := "()J" } : Jvm.MethodName) prog_40_method_4_code (1 : Nat) (Option.some Jvm.ClassFile.FieldType.long)).before args0 about1 = true := code_word (m := ⟨2, 2⟩) (meth := k2m2) (c := k2c2) (by decide +kernel) rfl rfl rfl (by decide +kernel)
set_option maxRecDepth 65536 in
theorem w_c6 : (Jvm.Cond.code ({ cls := "com/example/quittance/quittance/book/RunSelection", name := "after", desc := "()Z" } : Jvm.MethodName) prog_40_method_5_code (1 : Nat) (Option.some Jvm.ClassFile.FieldType.boolean)).before args0 about1 = true := code_word (m := ⟨2, 3⟩) (meth := k2m3) (c := k2c3) (by decide +kernel) rfl rfl rfl (by decide +kernel)
def codes1 : List Jvm.Cond := [Jvm.Cond.code x code maxLocals ret, Jvm.Cond.code ({ cls := "com/example/quittance/quittance/book/RunSelectionOnlyPinLaw", name := "toRun", desc := "(J)J" } : Jvm.MethodName) method_2_code (4 : Nat) (Option.some Jvm.ClassFile.FieldType.long), Jvm.Cond.code ({ cls := "com/example/quittance/quittance/book/RunSelection", name := "only", desc := "(J)Lcom/example/quittance/quittance/book/RunSelection;" } : Jvm.MethodName) prog_40_method_2_code (2 : Nat) (Option.some (Jvm.ClassFile.FieldType.object "com/example/quittance/quittance/book/RunSelection")), Jvm.Cond.code ({ cls := "com/example/quittance/quittance/book/RunSelection", name := "<init>", desc := "(JZ)V" } : Jvm.MethodName) prog_40_method_1_code (4 : Nat) (Option.none : Option Jvm.ClassFile.FieldType), Jvm.Cond.code ({ cls := "java/lang/Object", name := "<init>", desc := "()V" } : Jvm.MethodName) object_method_1_code (1 : Nat) (Option.none : Option Jvm.ClassFile.FieldType), Jvm.Cond.code ({ cls := "com/example/quittance/quittance/book/RunSelection", name := "run", desc := "()J" } : Jvm.MethodName) prog_40_method_4_code (1 : Nat) (Option.some Jvm.ClassFile.FieldType.long), Jvm.Cond.code ({ cls := "com/example/quittance/quittance/book/RunSelection", name := "after", desc := "()Z" } : Jvm.MethodName) prog_40_method_5_code (1 : Nat) (Option.some Jvm.ClassFile.FieldType.boolean)]
set_option maxRecDepth 65536 in
theorem codes_eq : words1.filter isCode = codes1 := rfl
theorem w_codes : ∀ c ∈ words1.filter isCode, c.before args0 about1 = true := by
  rw [codes_eq]
  intro c hc
  simp only [codes1, List.mem_cons, List.not_mem_nil, or_false] at hc
  rcases hc with rfl | rfl | rfl | rfl | rfl | rfl | rfl
  · exact w_c0
  · exact w_c1
  · exact w_c2
  · exact w_c3
  · exact w_c4
  · exact w_c5
  · exact w_c6
set_option maxRecDepth 65536 in
theorem w_t1 : (words1.take 24).all (fun c => isCode c || c.before args0 about1) = true := by decide +kernel
set_option maxRecDepth 65536 in
theorem w_t2 : (words1.drop 24).all (fun c => isCode c || c.before args0 about1) = true := by decide +kernel
theorem w_tables : (allAtoms (Jvm.Cond.code x code maxLocals ret :: tables_1)).before args0 about1 = true := by
  rw [allAtoms_all]
  show words1.all (fun c => c.before args0 about1) = true
  refine all_split ?_ w_codes
  rw [← List.take_append_drop 24 words1, List.all_append, w_t1, w_t2]
  rfl
set_option maxRecDepth 65536 in
theorem w_case : (Jvm.Cond.and given_1 narrow_1).before args0 about1 = true := by decide +kernel
theorem w_applies : (headSpec (Jvm.Cond.code x code maxLocals ret :: tables_1) room_1).applies x e0.platform about1 = true :=
  (Spec.applies_iff w_frames).mpr ⟨w_running, w_runnable, w_alone, w_named, w_hears, w_ripe, w_room, w_tables⟩
theorem atStart : AtStart classFile x code maxLocals ret World_1 tables_1 room_1 Calls_1 rest_1 Pre_1 launch0 p0 e0 about1 theMethod args0 below0 :=
  ⟨lists_1, trivial, launch0.admits_env _ _ _, launch0.least_env, fairChoices_fair.cas, fairChoices_fair.clock, w_frames, w_args, w_heap, w_applies, trivial, trivial, w_case⟩
end start1
theorem witness_1 : WitnessClaimed_1 := ⟨start1.p0, start1.e0, start1.about1, start1.theMethod, start1.args0, start1.below0, start1.atStart⟩
end Jvm.Pilot.@@N@@
