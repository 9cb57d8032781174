import JvmDerived
import JvmDerived.Pilot.@@N@@Statement
import JvmDerived.Pilot.@@N@@Code
set_option linter.unusedVariables false
set_option linter.unusedSimpArgs false
namespace Jvm.Pilot.@@N@@
open Jvm Jvm.ClassFile Sem Op Lib Jvm.Free Jvm.Stand Jvm.LawKit Jvm.RoadKit Bundle Jvm.Pilot.@@N@@.Jvm.D
def own_Ends (tb : Tables) (e : Env) (below : List Frame) (P : Outcome → State → Prop) (S : State) : Prop := ∃ t o, Steps tb e below S t ∧ t.status = .running ∧ Ended t below o ∧ P o t
theorem own_to {tb : Tables} {e : Env} {below : List Frame} {P : Outcome → State → Prop} {S S' : State} (h : ∀ target, Steps tb e below S' target → Steps tb e below S target) (g : own_Ends tb e below P S') : own_Ends tb e below P S := by
  obtain ⟨t, o, h1, r⟩ := g
  exact ⟨t, o, h _ h1, r⟩
theorem own_tr {tb : Tables} {e : Env} {below : List Frame} {P : Outcome → State → Prop} {S S' : State} (h : Steps tb e below S S') (g : own_Ends tb e below P S') : own_Ends tb e below P S := by
  obtain ⟨t, o, h1, r⟩ := g
  exact ⟨t, o, h.trans h1, r⟩
theorem own_cast {tb : Tables} {e : Env} {below : List Frame} {P : Outcome → State → Prop} {T : State} {f f' : JFrame} (q : f = f') (g : own_Ends tb e below P (T.setTop f')) : own_Ends tb e below P (T.setTop f) := q ▸ g
def own_P (s : State) (Q : Option Value → Heap → List Loc → Prop) (ck sk : Nat) : Outcome → State → Prop := fun o U' => ∃ v L, o = .returned v ∧ Q v U'.heap L ∧ FrameEnd s o U' L ck sk
theorem own_leave {p : Program} {l : Launch} {e : Env} {R : Room} {s : State} {m : MethodId} {args : Array Value} {below : List Frame} {meth : Method} {c : Code} {T : State} {locs : List Loc} {cells slots : Nat} {F : JFrame} {Q : Option Value → Heap → List Loc → Prop} {ck sk : Nat}
    (X : Stand p l e R s m args below meth c T locs cells slots) {v : Option Value} (hv : meth.sig.returnType = none → v = none) (hQ : Q v T.heap locs) (hc : cells ≤ ck) (hs : slots ≤ sk)
    (hst : ∀ fs, (∀ (f : JFrame) (acts : List Action), f.method = m → f.locked = none → f.entered = [] → (doReturn e (T.setTop f) acts v).1 = T.setFrames fs) → Steps p.tables e below (T.setTop F) (T.setFrames fs)) (hlocks : meth.locks = false := by first | assumption | exact BodyLoose.notSynchronized (by assumption) | exact Body.notSynchronized (by assumption)) : own_Ends p.tables e below (own_P s Q ck sk) (T.setTop F) := by
  obtain ⟨fs, hr, hrun, hended, hW, hsame⟩ := X.leave hv hlocks
  exact ⟨_, _, hst fs hr, hrun, hended, _, _, rfl, hQ, ⟨_, rfl⟩, hW, hsame.mono hc hs⟩
def own_PW (s : State) (Q : Option Value → Heap → List Loc → Prop) (ck sk : Nat) : Outcome → State → Prop := fun o U' => ∃ v L, o = .returned v ∧ Q v U'.heap L ∧ ReturnedEndW s o U' L ck sk
theorem own_leaveW {p : Program} {l : Launch} {e : Env} {R : Room} {s : State} {vm1 : Vm} {m : MethodId} {args : Array Value} {below : List Frame} {meth : Method} {c : Code} {T : State} {locs : List Loc} {cells slots : Nat} {F : JFrame} {Q : Option Value → Heap → List Loc → Prop} {ck sk k0 : Nat}
    (X : Stand p l e R (s.setVm vm1) m args below meth c T locs cells slots) (hS : s.Since vm1 k0) (hk : k0 ≤ T.heap.size) {v : Option Value} (hv : meth.sig.returnType = none → v = none) (hQ : Q v T.heap locs) (hc : cells ≤ ck) (hs : slots ≤ sk)
    (hst : ∀ fs, (∀ (f : JFrame) (acts : List Action), f.method = m → f.locked = none → f.entered = [] → (doReturn e (T.setTop f) acts v).1 = T.setFrames fs) → Steps p.tables e below (T.setTop F) (T.setFrames fs)) (hlocks : meth.locks = false := by first | assumption | exact BodyLoose.notSynchronized (by assumption) | exact Body.notSynchronized (by assumption)) : own_Ends p.tables e below (own_PW s Q ck sk) (T.setTop F) := by
  obtain ⟨fs, hr, hrun, hended, h1, h2, h3, h4⟩ := X.leaveW hS hk hv hlocks
  exact ⟨_, _, hst fs hr, hrun, hended, _, _, rfl, hQ, h1, h2, h3, h4.mono hc hs⟩
theorem own_old_le {Z : State} {n0 : Nat} {h : Heap} (O : Old Z n0 h) : n0 ≤ h.size := O.1 ▸ O.2.1
theorem own_le {a b : Nat} (h : Nat.ble a b = true) : a ≤ b := Nat.le_of_ble_eq_true h
theorem own_lt {a b : Nat} (h : Nat.ble (a + 1) b = true) : a < b := Nat.le_of_ble_eq_true h
theorem own_irr (x : Int32) : ¬ x < x := by rw [Int32.lt_iff_toInt_lt]; omega
theorem own_eqI {args : Array Value} {s : State} {t : Term} {k : Int32} (h : (Jvm.Cond.eq t (.int k)).value args s none s [] = some true) : t.eval args s none [] s = some (.int k) := by
  obtain ⟨x, y, hx, hy, -, hk⟩ := cmp_v (Or.inl h)
  cases (show some (Value.int k) = some y from hy)
  obtain ⟨z, rfl⟩ := hk
  have e : (Term.int k).eval args s none [] s = some (.int k) := rfl
  simp only [Cond.value, hx, e, Option.some.injEq, decide_eq_true_eq] at h
  rw [hx]
  simp_all
theorem own_intne {a b : Int32} (h : a ≠ b) : Value.int a ≠ Value.int b := fun q => h (Value.int.inj q)

abbrev oM0 : MethodName := ⟨"java/lang/Record", "<init>", "()V"⟩
abbrev oM1 : MethodName := ⟨"java/util/Objects", "requireNonNull", "(Ljava/lang/Object;Ljava/lang/String;)Ljava/lang/Object;"⟩
abbrev oM2 : MethodName := ⟨"com/example/routeward/routeward/net/IpFamily", "bits", "()I"⟩
abbrev oM3 : MethodName := ⟨"com/example/routeward/routeward/net/IpPrefix", "mask", "(JI)J"⟩
abbrev oM4 : MethodName := ⟨"com/example/routeward/routeward/net/IpPrefix", "<init>", "(Lcom/example/routeward/routeward/net/IpFamily;JJI)V"⟩
abbrev oM5 : MethodName := ⟨"com/example/routeward/routeward/net/IpPrefix", "maskedLow", "(I)J"⟩
abbrev oM6 : MethodName := ⟨"com/example/routeward/routeward/net/IpPrefixMaskedLowPinLaw", "expected", "(JI)J"⟩
theorem ow0 {Z : State} {a0 : Array Value} (hw : ∀ d ∈ tables_1, d.before a0 Z = true) : (Jvm.Cond.classLink "com/example/routeward/routeward/net/IpPrefixMaskedLowPinLaw" (7 : Nat) "com/example/routeward/routeward/net/IpPrefix").before a0 Z = true := hw _ (List.mem_of_getElem? (i := 0) rfl)
theorem ow1 {Z : State} {a0 : Array Value} (hw : ∀ d ∈ tables_1, d.before a0 Z = true) : (Jvm.Cond.instantiable "com/example/routeward/routeward/net/IpPrefix" (4 : Nat)).before a0 Z = true := hw _ (List.mem_of_getElem? (i := 1) rfl)
theorem ow2 {Z : State} {a0 : Array Value} (hw : ∀ d ∈ tables_1, d.before a0 Z = true) : (Jvm.Cond.initialized "com/example/routeward/routeward/net/IpPrefix").before a0 Z = true := hw _ (List.mem_of_getElem? (i := 2) rfl)
theorem ow3 {Z : State} {a0 : Array Value} (hw : ∀ d ∈ tables_1, d.before a0 Z = true) : (Jvm.Cond.fieldLink "com/example/routeward/routeward/net/IpPrefixMaskedLowPinLaw" (9 : Nat) "com/example/routeward/routeward/net/IpFamily" "IPV6" "Lcom/example/routeward/routeward/net/IpFamily;").before a0 Z = true := hw _ (List.mem_of_getElem? (i := 3) rfl)
theorem ow4 {Z : State} {a0 : Array Value} (hw : ∀ d ∈ tables_1, d.before a0 Z = true) : (Jvm.Cond.initialized "com/example/routeward/routeward/net/IpFamily").before a0 Z = true := hw _ (List.mem_of_getElem? (i := 4) rfl)
theorem ow5 {Z : State} {a0 : Array Value} (hw : ∀ d ∈ tables_1, d.before a0 Z = true) : (Jvm.Cond.laysStatic "com/example/routeward/routeward/net/IpFamily" "IPV6" "Lcom/example/routeward/routeward/net/IpFamily;").before a0 Z = true := hw _ (List.mem_of_getElem? (i := 5) rfl)
theorem ow6 {Z : State} {a0 : Array Value} (hw : ∀ d ∈ tables_1, d.before a0 Z = true) : (Jvm.Cond.methodLink "com/example/routeward/routeward/net/IpPrefixMaskedLowPinLaw" (15 : Nat) ({ cls := "com/example/routeward/routeward/net/IpPrefix", name := "<init>", desc := "(Lcom/example/routeward/routeward/net/IpFamily;JJI)V" } : Jvm.MethodName)).before a0 Z = true := hw _ (List.mem_of_getElem? (i := 6) rfl)
theorem ow7 {Z : State} {a0 : Array Value} (hw : ∀ d ∈ tables_1, d.before a0 Z = true) : (Jvm.Cond.instanceMethod ({ cls := "com/example/routeward/routeward/net/IpPrefix", name := "<init>", desc := "(Lcom/example/routeward/routeward/net/IpFamily;JJI)V" } : Jvm.MethodName)).before a0 Z = true := hw _ (List.mem_of_getElem? (i := 7) rfl)
theorem ow8 {Z : State} {a0 : Array Value} (hw : ∀ d ∈ tables_1, d.before a0 Z = true) : (Jvm.Cond.code ({ cls := "com/example/routeward/routeward/net/IpPrefix", name := "<init>", desc := "(Lcom/example/routeward/routeward/net/IpFamily;JJI)V" } : Jvm.MethodName) prog_15_method_1_code (7 : Nat) (Option.none : Option Jvm.ClassFile.FieldType)).before a0 Z = true := hw _ (List.mem_of_getElem? (i := 8) rfl)
theorem ow9 {Z : State} {a0 : Array Value} (hw : ∀ d ∈ tables_1, d.before a0 Z = true) : (Jvm.Cond.methodLink "com/example/routeward/routeward/net/IpPrefix" (1 : Nat) ({ cls := "java/lang/Record", name := "<init>", desc := "()V" } : Jvm.MethodName)).before a0 Z = true := hw _ (List.mem_of_getElem? (i := 9) rfl)
theorem ow10 {Z : State} {a0 : Array Value} (hw : ∀ d ∈ tables_1, d.before a0 Z = true) : (Jvm.Cond.instanceMethod ({ cls := "java/lang/Record", name := "<init>", desc := "()V" } : Jvm.MethodName)).before a0 Z = true := hw _ (List.mem_of_getElem? (i := 10) rfl)
theorem ow12 {Z : State} {a0 : Array Value} (hw : ∀ d ∈ tables_1, d.before a0 Z = true) : (Jvm.Cond.initialized "java/lang/Record").before a0 Z = true := hw _ (List.mem_of_getElem? (i := 12) rfl)
theorem ow13 {Z : State} {a0 : Array Value} (hw : ∀ d ∈ tables_1, d.before a0 Z = true) : (Jvm.Cond.code ({ cls := "java/lang/Record", name := "<init>", desc := "()V" } : Jvm.MethodName) jdk_30_method_1_code (1 : Nat) (Option.none : Option Jvm.ClassFile.FieldType)).before a0 Z = true := hw _ (List.mem_of_getElem? (i := 13) rfl)
theorem ow14 {Z : State} {a0 : Array Value} (hw : ∀ d ∈ tables_1, d.before a0 Z = true) : (Jvm.Cond.methodLink "java/lang/Record" (1 : Nat) ({ cls := "java/lang/Object", name := "<init>", desc := "()V" } : Jvm.MethodName)).before a0 Z = true := hw _ (List.mem_of_getElem? (i := 14) rfl)
theorem ow15 {Z : State} {a0 : Array Value} (hw : ∀ d ∈ tables_1, d.before a0 Z = true) : (Jvm.Cond.instanceMethod ({ cls := "java/lang/Object", name := "<init>", desc := "()V" } : Jvm.MethodName)).before a0 Z = true := hw _ (List.mem_of_getElem? (i := 15) rfl)
theorem ow16 {Z : State} {a0 : Array Value} (hw : ∀ d ∈ tables_1, d.before a0 Z = true) : (Jvm.Cond.code ({ cls := "java/lang/Object", name := "<init>", desc := "()V" } : Jvm.MethodName) object_method_1_code (1 : Nat) (Option.none : Option Jvm.ClassFile.FieldType)).before a0 Z = true := hw _ (List.mem_of_getElem? (i := 16) rfl)
theorem ow17 {Z : State} {a0 : Array Value} (hw : ∀ d ∈ tables_1, d.before a0 Z = true) : (Jvm.Cond.stringLink "com/example/routeward/routeward/net/IpPrefix" (7 : Nat) "family").before a0 Z = true := hw _ (List.mem_of_getElem? (i := 17) rfl)
theorem ow18 {Z : State} {a0 : Array Value} (hw : ∀ d ∈ tables_1, d.before a0 Z = true) : (Jvm.Cond.initialized "java/lang/String").before a0 Z = true := hw _ (List.mem_of_getElem? (i := 18) rfl)
theorem ow19 {Z : State} {a0 : Array Value} (hw : ∀ d ∈ tables_1, d.before a0 Z = true) : (Jvm.Cond.instantiable "java/lang/String" (4 : Nat)).before a0 Z = true := hw _ (List.mem_of_getElem? (i := 19) rfl)
theorem ow20 {Z : State} {a0 : Array Value} (hw : ∀ d ∈ tables_1, d.before a0 Z = true) : (Jvm.Cond.arrayClass Jvm.ClassFile.FieldType.byte).before a0 Z = true := hw _ (List.mem_of_getElem? (i := 20) rfl)
theorem ow21 {Z : State} {a0 : Array Value} (hw : ∀ d ∈ tables_1, d.before a0 Z = true) : (Jvm.Cond.laysFinal "java/lang/String" "java/lang/String" "value" "[B").before a0 Z = true := hw _ (List.mem_of_getElem? (i := 21) rfl)
theorem ow22 {Z : State} {a0 : Array Value} (hw : ∀ d ∈ tables_1, d.before a0 Z = true) : (Jvm.Cond.laysFinal "java/lang/String" "java/lang/String" "coder" "B").before a0 Z = true := hw _ (List.mem_of_getElem? (i := 22) rfl)
theorem ow23 {Z : State} {a0 : Array Value} (hw : ∀ d ∈ tables_1, d.before a0 Z = true) : (Jvm.Cond.soleField "java/lang/String" "value").before a0 Z = true := hw _ (List.mem_of_getElem? (i := 23) rfl)
theorem ow24 {Z : State} {a0 : Array Value} (hw : ∀ d ∈ tables_1, d.before a0 Z = true) : (Jvm.Cond.soleField "java/lang/String" "coder").before a0 Z = true := hw _ (List.mem_of_getElem? (i := 24) rfl)
theorem ow25 {Z : State} {a0 : Array Value} (hw : ∀ d ∈ tables_1, d.before a0 Z = true) : (Jvm.Cond.methodLink "com/example/routeward/routeward/net/IpPrefix" (9 : Nat) ({ cls := "java/util/Objects", name := "requireNonNull", desc := "(Ljava/lang/Object;Ljava/lang/String;)Ljava/lang/Object;" } : Jvm.MethodName)).before a0 Z = true := hw _ (List.mem_of_getElem? (i := 25) rfl)
theorem ow26 {Z : State} {a0 : Array Value} (hw : ∀ d ∈ tables_1, d.before a0 Z = true) : (Jvm.Cond.static ({ cls := "java/util/Objects", name := "requireNonNull", desc := "(Ljava/lang/Object;Ljava/lang/String;)Ljava/lang/Object;" } : Jvm.MethodName)).before a0 Z = true := hw _ (List.mem_of_getElem? (i := 26) rfl)
theorem ow27 {Z : State} {a0 : Array Value} (hw : ∀ d ∈ tables_1, d.before a0 Z = true) : (Jvm.Cond.initialized "java/util/Objects").before a0 Z = true := hw _ (List.mem_of_getElem? (i := 27) rfl)
theorem ow28 {Z : State} {a0 : Array Value} (hw : ∀ d ∈ tables_1, d.before a0 Z = true) : (Jvm.Cond.code ({ cls := "java/util/Objects", name := "requireNonNull", desc := "(Ljava/lang/Object;Ljava/lang/String;)Ljava/lang/Object;" } : Jvm.MethodName) jdk_31_method_11_code (2 : Nat) (Option.some (Jvm.ClassFile.FieldType.object "java/lang/Object"))).before a0 Z = true := hw _ (List.mem_of_getElem? (i := 28) rfl)
theorem ow29 {Z : State} {a0 : Array Value} (hw : ∀ d ∈ tables_1, d.before a0 Z = true) : (Jvm.Cond.methodLink "com/example/routeward/routeward/net/IpPrefix" (15 : Nat) ({ cls := "com/example/routeward/routeward/net/IpFamily", name := "bits", desc := "()I" } : Jvm.MethodName)).before a0 Z = true := hw _ (List.mem_of_getElem? (i := 29) rfl)
theorem ow30 {Z : State} {a0 : Array Value} (hw : ∀ d ∈ tables_1, d.before a0 Z = true) : (Jvm.Cond.declares ({ cls := "com/example/routeward/routeward/net/IpFamily", name := "bits", desc := "()I" } : Jvm.MethodName)).before a0 Z = true := hw _ (List.mem_of_getElem? (i := 30) rfl)
theorem ow31 {Z : State} {a0 : Array Value} (hw : ∀ d ∈ tables_1, d.before a0 Z = true) : (Jvm.Cond.instanceMethod ({ cls := "com/example/routeward/routeward/net/IpFamily", name := "bits", desc := "()I" } : Jvm.MethodName)).before a0 Z = true := hw _ (List.mem_of_getElem? (i := 31) rfl)
theorem ow32 {Z : State} {a0 : Array Value} (hw : ∀ d ∈ tables_1, d.before a0 Z = true) : (Jvm.Cond.selects "com/example/routeward/routeward/net/IpFamily" ({ cls := "com/example/routeward/routeward/net/IpFamily", name := "bits", desc := "()I" } : Jvm.MethodName) ({ cls := "com/example/routeward/routeward/net/IpFamily", name := "bits", desc := "()I" } : Jvm.MethodName)).before a0 Z = true := hw _ (List.mem_of_getElem? (i := 32) rfl)
theorem ow33 {Z : State} {a0 : Array Value} (hw : ∀ d ∈ tables_1, d.before a0 Z = true) : (Jvm.Cond.code ({ cls := "com/example/routeward/routeward/net/IpFamily", name := "bits", desc := "()I" } : Jvm.MethodName) prog_14_method_4_code (1 : Nat) (Option.some Jvm.ClassFile.FieldType.int)).before a0 Z = true := hw _ (List.mem_of_getElem? (i := 33) rfl)
theorem ow34 {Z : State} {a0 : Array Value} (hw : ∀ d ∈ tables_1, d.before a0 Z = true) : (Jvm.Cond.fieldLink "com/example/routeward/routeward/net/IpFamily" (29 : Nat) "com/example/routeward/routeward/net/IpFamily" "bits" "I").before a0 Z = true := hw _ (List.mem_of_getElem? (i := 34) rfl)
theorem ow36 {Z : State} {a0 : Array Value} (hw : ∀ d ∈ tables_1, d.before a0 Z = true) : (Jvm.Cond.methodLink "com/example/routeward/routeward/net/IpPrefix" (30 : Nat) ({ cls := "com/example/routeward/routeward/net/IpPrefix", name := "mask", desc := "(JI)J" } : Jvm.MethodName)).before a0 Z = true := hw _ (List.mem_of_getElem? (i := 36) rfl)
theorem ow37 {Z : State} {a0 : Array Value} (hw : ∀ d ∈ tables_1, d.before a0 Z = true) : (Jvm.Cond.static ({ cls := "com/example/routeward/routeward/net/IpPrefix", name := "mask", desc := "(JI)J" } : Jvm.MethodName)).before a0 Z = true := hw _ (List.mem_of_getElem? (i := 37) rfl)
theorem ow38 {Z : State} {a0 : Array Value} (hw : ∀ d ∈ tables_1, d.before a0 Z = true) : (Jvm.Cond.code ({ cls := "com/example/routeward/routeward/net/IpPrefix", name := "mask", desc := "(JI)J" } : Jvm.MethodName) prog_15_method_8_code (3 : Nat) (Option.some Jvm.ClassFile.FieldType.long)).before a0 Z = true := hw _ (List.mem_of_getElem? (i := 38) rfl)
theorem ow39 {Z : State} {a0 : Array Value} (hw : ∀ d ∈ tables_1, d.before a0 Z = true) : (Jvm.Cond.fieldLink "com/example/routeward/routeward/net/IpPrefix" (38 : Nat) "com/example/routeward/routeward/net/IpPrefix" "family" "Lcom/example/routeward/routeward/net/IpFamily;").before a0 Z = true := hw _ (List.mem_of_getElem? (i := 39) rfl)
theorem ow40 {Z : State} {a0 : Array Value} (hw : ∀ d ∈ tables_1, d.before a0 Z = true) : (Jvm.Cond.laysFinal "com/example/routeward/routeward/net/IpPrefix" "com/example/routeward/routeward/net/IpPrefix" "family" "Lcom/example/routeward/routeward/net/IpFamily;").before a0 Z = true := hw _ (List.mem_of_getElem? (i := 40) rfl)
theorem ow41 {Z : State} {a0 : Array Value} (hw : ∀ d ∈ tables_1, d.before a0 Z = true) : (Jvm.Cond.fieldLink "com/example/routeward/routeward/net/IpPrefix" (41 : Nat) "com/example/routeward/routeward/net/IpPrefix" "high" "J").before a0 Z = true := hw _ (List.mem_of_getElem? (i := 41) rfl)
theorem ow42 {Z : State} {a0 : Array Value} (hw : ∀ d ∈ tables_1, d.before a0 Z = true) : (Jvm.Cond.laysFinal "com/example/routeward/routeward/net/IpPrefix" "com/example/routeward/routeward/net/IpPrefix" "high" "J").before a0 Z = true := hw _ (List.mem_of_getElem? (i := 42) rfl)
theorem ow43 {Z : State} {a0 : Array Value} (hw : ∀ d ∈ tables_1, d.before a0 Z = true) : (Jvm.Cond.fieldLink "com/example/routeward/routeward/net/IpPrefix" (45 : Nat) "com/example/routeward/routeward/net/IpPrefix" "low" "J").before a0 Z = true := hw _ (List.mem_of_getElem? (i := 43) rfl)
theorem ow44 {Z : State} {a0 : Array Value} (hw : ∀ d ∈ tables_1, d.before a0 Z = true) : (Jvm.Cond.laysFinal "com/example/routeward/routeward/net/IpPrefix" "com/example/routeward/routeward/net/IpPrefix" "low" "J").before a0 Z = true := hw _ (List.mem_of_getElem? (i := 44) rfl)
theorem ow45 {Z : State} {a0 : Array Value} (hw : ∀ d ∈ tables_1, d.before a0 Z = true) : (Jvm.Cond.fieldLink "com/example/routeward/routeward/net/IpPrefix" (48 : Nat) "com/example/routeward/routeward/net/IpPrefix" "length" "I").before a0 Z = true := hw _ (List.mem_of_getElem? (i := 45) rfl)
theorem ow46 {Z : State} {a0 : Array Value} (hw : ∀ d ∈ tables_1, d.before a0 Z = true) : (Jvm.Cond.laysFinal "com/example/routeward/routeward/net/IpPrefix" "com/example/routeward/routeward/net/IpPrefix" "length" "I").before a0 Z = true := hw _ (List.mem_of_getElem? (i := 46) rfl)
theorem ow47 {Z : State} {a0 : Array Value} (hw : ∀ d ∈ tables_1, d.before a0 Z = true) : (Jvm.Cond.methodLink "com/example/routeward/routeward/net/IpPrefixMaskedLowPinLaw" (18 : Nat) ({ cls := "com/example/routeward/routeward/net/IpPrefix", name := "maskedLow", desc := "(I)J" } : Jvm.MethodName)).before a0 Z = true := hw _ (List.mem_of_getElem? (i := 47) rfl)
theorem ow48 {Z : State} {a0 : Array Value} (hw : ∀ d ∈ tables_1, d.before a0 Z = true) : (Jvm.Cond.declares ({ cls := "com/example/routeward/routeward/net/IpPrefix", name := "maskedLow", desc := "(I)J" } : Jvm.MethodName)).before a0 Z = true := hw _ (List.mem_of_getElem? (i := 48) rfl)
theorem ow49 {Z : State} {a0 : Array Value} (hw : ∀ d ∈ tables_1, d.before a0 Z = true) : (Jvm.Cond.instanceMethod ({ cls := "com/example/routeward/routeward/net/IpPrefix", name := "maskedLow", desc := "(I)J" } : Jvm.MethodName)).before a0 Z = true := hw _ (List.mem_of_getElem? (i := 49) rfl)
theorem ow50 {Z : State} {a0 : Array Value} (hw : ∀ d ∈ tables_1, d.before a0 Z = true) : (Jvm.Cond.selects "com/example/routeward/routeward/net/IpPrefix" ({ cls := "com/example/routeward/routeward/net/IpPrefix", name := "maskedLow", desc := "(I)J" } : Jvm.MethodName) ({ cls := "com/example/routeward/routeward/net/IpPrefix", name := "maskedLow", desc := "(I)J" } : Jvm.MethodName)).before a0 Z = true := hw _ (List.mem_of_getElem? (i := 50) rfl)
theorem ow51 {Z : State} {a0 : Array Value} (hw : ∀ d ∈ tables_1, d.before a0 Z = true) : (Jvm.Cond.code ({ cls := "com/example/routeward/routeward/net/IpPrefix", name := "maskedLow", desc := "(I)J" } : Jvm.MethodName) prog_15_method_5_code (2 : Nat) (Option.some Jvm.ClassFile.FieldType.long)).before a0 Z = true := hw _ (List.mem_of_getElem? (i := 51) rfl)
theorem ow52 {Z : State} {a0 : Array Value} (hw : ∀ d ∈ tables_1, d.before a0 Z = true) : (Jvm.Cond.methodLink "com/example/routeward/routeward/net/IpPrefixMaskedLowPinLaw" (22 : Nat) ({ cls := "com/example/routeward/routeward/net/IpPrefixMaskedLowPinLaw", name := "expected", desc := "(JI)J" } : Jvm.MethodName)).before a0 Z = true := hw _ (List.mem_of_getElem? (i := 52) rfl)
theorem ow53 {Z : State} {a0 : Array Value} (hw : ∀ d ∈ tables_1, d.before a0 Z = true) : (Jvm.Cond.static ({ cls := "com/example/routeward/routeward/net/IpPrefixMaskedLowPinLaw", name := "expected", desc := "(JI)J" } : Jvm.MethodName)).before a0 Z = true := hw _ (List.mem_of_getElem? (i := 53) rfl)
theorem ow54 {Z : State} {a0 : Array Value} (hw : ∀ d ∈ tables_1, d.before a0 Z = true) : (Jvm.Cond.initialized "com/example/routeward/routeward/net/IpPrefixMaskedLowPinLaw").before a0 Z = true := hw _ (List.mem_of_getElem? (i := 54) rfl)
theorem ow55 {Z : State} {a0 : Array Value} (hw : ∀ d ∈ tables_1, d.before a0 Z = true) : (Jvm.Cond.code ({ cls := "com/example/routeward/routeward/net/IpPrefixMaskedLowPinLaw", name := "expected", desc := "(JI)J" } : Jvm.MethodName) method_3_code (5 : Nat) (Option.some Jvm.ClassFile.FieldType.long)).before a0 Z = true := hw _ (List.mem_of_getElem? (i := 55) rfl)
theorem ow56 {Z : State} {a0 : Array Value} (hw : ∀ d ∈ tables_1, d.before a0 Z = true) : (Jvm.Cond.constantLong "com/example/routeward/routeward/net/IpPrefix" (143 : Nat) (-1 : Int64)).before a0 Z = true := hw _ (List.mem_of_getElem? (i := 56) rfl)
theorem own_str {Z : State} {a0 : Array Value} (hw : ∀ d ∈ tables_1, d.before a0 Z = true) : ∀ a ∈ Bundle.stringAtoms, a.before a0 Z = true := fun a ha => by
  simp only [Bundle.stringAtoms, List.mem_cons, List.not_mem_nil, or_false] at ha
  rcases ha with rfl | rfl | rfl | rfl | rfl | rfl | rfl
  · exact (ow18 hw)
  · exact (ow19 hw)
  · exact (ow20 hw)
  · exact (ow21 hw)
  · exact (ow22 hw)
  · exact (ow23 hw)
  · exact (ow24 hw)
def own_mask (x : Int64) (k : Int32) : Int64 := if (0 : Int32) < k then (if k < (64 : Int32) then (x &&& ((-1 : Int64) <<< (((64 : Int32) - k) &&& 0x3f).toInt64)) else x) else 0
def own_exp (x : Int64) (b : Int32) : Int64 := if (0 : Int32) < (b - (64 : Int32)) then (if (b - (64 : Int32)) < (64 : Int32) then (((x.toUInt64 >>> (((64 : Int32) - (b - (64 : Int32))) &&& 0x3f).toInt64.toUInt64).toInt64) <<< (((64 : Int32) - (b - (64 : Int32))) &&& 0x3f).toInt64) else x) else 0
theorem own_bv (x : BitVec 64) (k : Nat) : x &&& (BitVec.allOnes 64 <<< k) = (x >>> k) <<< k := by
  ext i hi
  simp only [BitVec.getElem_and, BitVec.getElem_shiftLeft, BitVec.getElem_ushiftRight, BitVec.getElem_allOnes]
  by_cases h : i < k
  · simp [h]
  · simp [h, BitVec.getLsbD_eq_getElem, hi, show k + (i - k) = i by omega]
theorem own_bits (x : Int64) (q : Int32) : (x &&& ((-1 : Int64) <<< (q &&& 0x3f).toInt64)) = (((x.toUInt64 >>> (q &&& 0x3f).toInt64.toUInt64).toInt64) <<< (q &&& 0x3f).toInt64) := by
  obtain ⟨k, hk⟩ : ∃ k, q.toBitVec.toNat % 64 = k := ⟨_, rfl⟩
  obtain ⟨h1, h2⟩ := sm64 q k hk
  generalize (q &&& 0x3f).toInt64 = d at *
  apply Int64.toBitVec_inj.mp
  have e1 : ∀ y : Int64, (y <<< d).toBitVec = y.toBitVec <<< k := fun y => by
    show y.toBitVec <<< (d.toBitVec.smod 64) = _
    rw [h1, BitVec.shiftLeft_eq', smod64 k h2]
  have e2 : ((x.toUInt64 >>> d.toUInt64).toInt64).toBitVec = x.toBitVec >>> k := by
    show x.toBitVec >>> (d.toBitVec % 64#64) = _
    rw [h1, BitVec.ushiftRight_eq']
    congr 1
    simp [BitVec.toNat_umod]
    omega
  rw [Int64.toBitVec_and, e1, e1, e2]
  exact own_bv _ _
theorem own_same (x : Int64) (b : Int32) : own_mask x (b - (64 : Int32)) = own_exp x b := by
  unfold own_mask own_exp
  split
  · split
    · exact own_bits x _
    · rfl
  · rfl
theorem own_mask128 (x : Int64) : own_mask x 128 = x := by simp [own_mask]
theorem own_mask64 (x : Int64) : own_mask x 64 = x := by simp [own_mask]
theorem d2_0 : decode jdk_30_method_1_code 0 = .ok (.aload_n 0, 1) := by decide +kernel
theorem d2_1 : decode jdk_30_method_1_code 1 = .ok (.invokespecial 1, 3) := by decide +kernel
theorem d2_4 : decode jdk_30_method_1_code 4 = .ok (.return_, 1) := by decide +kernel
theorem pn_2 : plainName "java/lang/Record" = true := by first | (simp [plainName, overriddenIn]; done) | decide +kernel
theorem ef_rmR (m : MethodId) (a : Addr) : entryFrame m #[(.ref a)] 1 = mkF m 0 #[.val (.ref a)] [] := by first | (simp [entryFrame, mkF, argsToLocals, Value.category]; done) | rfl | (rcases ref_cases hrf with rfl | ⟨q, rfl⟩ <;> rfl)
def Q_rmR (Z : State) (a : Addr)  (h0 : Heap) (n0 : Nat) (v : Option Value) (h : Heap) (L : List Loc) : Prop := v = none ∧ Fr n0 L ∧ h = h0
set_option maxRecDepth 65536 in
set_option maxHeartbeats 40000000 in
theorem rmR (l : Launch) (Z : State) (a0 : Array Value) (hw : ∀ d ∈ tables_1, d.before a0 Z = true) (ws : List Jvm.Cond) (a : Addr)  (h0 : Heap) (n0 : Nat) (O0 : Old Z n0 h0) :
    MetFree l oM0 (head1 (Jvm.Cond.code oM0 jdk_30_method_1_code 1 none :: ws) ({ frames := 1, cells := 0, slots := 0, locals := 12 } : Room)) (fun aq_ U => aq_ = #[(.ref a)] ∧ Z.Warmed39 U.vm ∧ U.heap = h0) (fun _ _ _ _ _ => True) (fun _ U o U' => ∃ v L, o = .returned v ∧ Q_rmR Z a h0 n0 v U'.heap L ∧ FrameEnd U o U' L ({ frames := 1, cells := 0, slots := 0, locals := 12 } : Room).cells ({ frames := 1, cells := 0, slots := 0, locals := 12 } : Room).slots) := by
  refine MetFree.of_bodySF (plainFor_of_name pn_2) hisR ?_
  intro p e s m args below meth c s₁ Bd hml0 hP hK
  obtain ⟨rfl, hZ, hh⟩ := hP
  have hx := Bd.exec
  have hby := Bd.bytes
  have hml : c.maxLocals = 1 := hml0
  have hown : s.vm.findClass "java/lang/Record" = some m.cls := findClass_of_methodNamed Bd.named
  have hnm := (name_of_methodNamed Bd.named Bd.method).1
  have X0 : Stand p l e ({ frames := 1, cells := 0, slots := 0, locals := 12 } : Room) s m #[(.ref a)] below meth c s₁ [] 0 0 := Stand.of_body Bd
  have e0 : s₁.heap = h0 := by rw [← hh, Bd.state]; rfl
  have N0 := Fr.nil n0
  show own_Ends p.tables e below (own_P s (Q_rmR Z a h0 n0) ({ frames := 1, cells := 0, slots := 0, locals := 12 } : Room).cells ({ frames := 1, cells := 0, slots := 0, locals := 12 } : Room).slots) _
  refine own_cast (ef_rmR m a) ?_
  show own_Ends _ _ _ _ (s₁.setTop (mkF m 0 #[.val (.ref a)] []))
  refine own_to (fun _ kont => XS.aloadN X0.here hx rfl (hb hby d2_0) rfl rfl kont) ?_
  show own_Ends _ _ _ _ (s₁.setTop (mkF m 1 #[.val (.ref a)] [(.ref a)]))
  obtain ⟨T1, X1, e1, st1⟩ := initO X0 hx hZ hown (ow14 hw) (ow15 hw) (ow16 hw) e0 (g := (mkF m 1 #[.val (.ref a)] [(.ref a)])) rfl (by rw [hml]; rfl) rfl (hb hby d2_1) (by decide) (W := 0) (by show 2 * 0 + _ ≤ _; exact Nat.le_of_eq rfl) (by decide)
  refine own_to st1 ?_
  show own_Ends _ _ _ _ (T1.setTop (mkF m 4 #[.val (.ref a)] []))
  refine own_leave X1 (v := none) (fun _ => rfl) ?_ (by decide) (by decide) (fun fs hr => X1.returnOut hx Bd.returns (hb hby d2_4) hr)
  show Q_rmR Z a h0 n0 _ T1.heap _
  rw [e1]
  exact ⟨rfl, N0, rfl⟩
theorem d4_0 : decode jdk_31_method_11_code 0 = .ok (.aload_n 0, 1) := by decide +kernel
theorem d4_1 : decode jdk_31_method_11_code 1 = .ok (.ifnonnull 12, 3) := by decide +kernel
theorem d4_13 : decode jdk_31_method_11_code 13 = .ok (.aload_n 0, 1) := by decide +kernel
theorem d4_14 : decode jdk_31_method_11_code 14 = .ok (.areturn, 1) := by decide +kernel
theorem pn_4 : plainName "java/util/Objects" = true := by first | (simp [plainName, overriddenIn]; done) | decide +kernel
theorem ef_rmN (m : MethodId) (a : Addr) (b : Addr) : entryFrame m #[(.ref a), (.ref b)] 2 = mkF m 0 #[.val (.ref a), .val (.ref b)] [] := by first | (simp [entryFrame, mkF, argsToLocals, Value.category]; done) | rfl | (rcases ref_cases hrf with rfl | ⟨q, rfl⟩ <;> rfl)
def Q_rmN (Z : State) (a : Addr) (b : Addr)  (h0 : Heap) (n0 : Nat) (v : Option Value) (h : Heap) (L : List Loc) : Prop := v = some (.ref a) ∧ Fr n0 L ∧ h = h0
set_option maxRecDepth 65536 in
set_option maxHeartbeats 40000000 in
theorem rmN (l : Launch) (Z : State) (a0 : Array Value) (hw : ∀ d ∈ tables_1, d.before a0 Z = true) (ws : List Jvm.Cond) (a : Addr) (b : Addr)  (h0 : Heap) (n0 : Nat) (O0 : Old Z n0 h0) :
    MetFree l oM1 (head1 (Jvm.Cond.code oM1 jdk_31_method_11_code 2 (some (.object "java/lang/Object")) :: ws) ({ frames := 0, cells := 0, slots := 0, locals := 0 } : Room)) (fun aq_ U => aq_ = #[(.ref a), (.ref b)] ∧ Z.Warmed39 U.vm ∧ U.heap = h0) (fun _ _ _ _ _ => True) (fun _ U o U' => ∃ v L, o = .returned v ∧ Q_rmN Z a b h0 n0 v U'.heap L ∧ FrameEnd U o U' L ({ frames := 0, cells := 0, slots := 0, locals := 0 } : Room).cells ({ frames := 0, cells := 0, slots := 0, locals := 0 } : Room).slots) := by
  refine MetFree.of_bodySF (plainFor_of_name pn_4) hisR ?_
  intro p e s m args below meth c s₁ Bd hml0 hP hK
  obtain ⟨rfl, hZ, hh⟩ := hP
  have hx := Bd.exec
  have hby := Bd.bytes
  have hml : c.maxLocals = 2 := hml0
  have hown : s.vm.findClass "java/util/Objects" = some m.cls := findClass_of_methodNamed Bd.named
  have hnm := (name_of_methodNamed Bd.named Bd.method).1
  have X0 : Stand p l e ({ frames := 0, cells := 0, slots := 0, locals := 0 } : Room) s m #[(.ref a), (.ref b)] below meth c s₁ [] 0 0 := Stand.of_body Bd
  have e0 : s₁.heap = h0 := by rw [← hh, Bd.state]; rfl
  have N0 := Fr.nil n0
  show own_Ends p.tables e below (own_P s (Q_rmN Z a b h0 n0) ({ frames := 0, cells := 0, slots := 0, locals := 0 } : Room).cells ({ frames := 0, cells := 0, slots := 0, locals := 0 } : Room).slots) _
  refine own_cast (ef_rmN m a b) ?_
  show own_Ends _ _ _ _ (s₁.setTop (mkF m 0 #[.val (.ref a), .val (.ref b)] []))
  refine own_to (fun _ kont => XS.aloadN X0.here hx rfl (hb hby d4_0) rfl rfl kont) ?_
  show own_Ends _ _ _ _ (s₁.setTop (mkF m 1 #[.val (.ref a), .val (.ref b)] [(.ref a)]))
  refine own_to (fun _ kont => XS.ifnonnullYes X0.here hx rfl (pc0 := 1) (pc' := 13) rfl (hb hby d4_1) rfl (by decide) (by decide) kont) ?_
  show own_Ends _ _ _ _ (s₁.setTop (mkF m 13 #[.val (.ref a), .val (.ref b)] []))
  refine own_to (fun _ kont => XS.aloadN X0.here hx rfl (hb hby d4_13) rfl rfl kont) ?_
  show own_Ends _ _ _ _ (s₁.setTop (mkF m 14 #[.val (.ref a), .val (.ref b)] [(.ref a)]))
  refine own_leave X0 (v := some (.ref a)) (fun h => by rw [Bd.returns] at h; cases h) ?_ (by decide) (by decide) (fun fs hr => retOut X0 hx Bd.returns rfl (Or.inr (Or.inr (Or.inr (Or.inr ⟨rfl, rfl, rfl⟩)))) (hb hby d4_14) hr)
  show Q_rmN Z a b h0 n0 _ s₁.heap _
  rw [e0]
  exact ⟨rfl, N0, rfl⟩
theorem d5_0 : decode prog_14_method_4_code 0 = .ok (.aload_n 0, 1) := by decide +kernel
theorem d5_1 : decode prog_14_method_4_code 1 = .ok (.getfield 29, 3) := by decide +kernel
theorem d5_4 : decode prog_14_method_4_code 4 = .ok (.ireturn, 1) := by decide +kernel
theorem pn_5 : plainName "com/example/routeward/routeward/net/IpFamily" = true := by first | (simp [plainName, overriddenIn]; done) | decide +kernel
theorem ef_rmB (m : MethodId) (a : Addr) : entryFrame m #[(.ref a)] 1 = mkF m 0 #[.val (.ref a)] [] := by first | (simp [entryFrame, mkF, argsToLocals, Value.category]; done) | rfl | (rcases ref_cases hrf with rfl | ⟨q, rfl⟩ <;> rfl)
def Q_rmB (Z : State) (a : Addr)  (h0 : Heap) (n0 : Nat) (v : Option Value) (h : Heap) (L : List Loc) : Prop := v = some (.int (128 : Int32)) ∧ Fr n0 L ∧ h = h0
set_option maxRecDepth 65536 in
set_option maxHeartbeats 40000000 in
theorem rmB (l : Launch) (Z : State) (a0 : Array Value) (hw : ∀ d ∈ tables_1, d.before a0 Z = true) (ws : List Jvm.Cond) (a : Addr)  (h0 : Heap) (n0 : Nat) (O0 : Old Z n0 h0) (F_a : Fld Z Z.heap a "com/example/routeward/routeward/net/IpFamily" "bits" "I" (.int (128 : Int32))) :
    MetFree l oM2 (head1 (Jvm.Cond.code oM2 prog_14_method_4_code 1 (some .int) :: ws) ({ frames := 0, cells := 0, slots := 0, locals := 0 } : Room)) (fun aq_ U => aq_ = #[(.ref a)] ∧ Z.Warmed39 U.vm ∧ U.heap = h0) (fun _ _ _ _ _ => True) (fun _ U o U' => ∃ v L, o = .returned v ∧ Q_rmB Z a h0 n0 v U'.heap L ∧ FrameEnd U o U' L ({ frames := 0, cells := 0, slots := 0, locals := 0 } : Room).cells ({ frames := 0, cells := 0, slots := 0, locals := 0 } : Room).slots) := by
  refine MetFree.of_bodySF (plainFor_of_name pn_5) hisR ?_
  intro p e s m args below meth c s₁ Bd hml0 hP hK
  obtain ⟨rfl, hZ, hh⟩ := hP
  have hx := Bd.exec
  have hby := Bd.bytes
  have hml : c.maxLocals = 1 := hml0
  have hown : s.vm.findClass "com/example/routeward/routeward/net/IpFamily" = some m.cls := findClass_of_methodNamed Bd.named
  have hnm := (name_of_methodNamed Bd.named Bd.method).1
  have X0 : Stand p l e ({ frames := 0, cells := 0, slots := 0, locals := 0 } : Room) s m #[(.ref a)] below meth c s₁ [] 0 0 := Stand.of_body Bd
  have e0 : s₁.heap = h0 := by rw [← hh, Bd.state]; rfl
  have N0 := Fr.nil n0
  show own_Ends p.tables e below (own_P s (Q_rmB Z a h0 n0) ({ frames := 0, cells := 0, slots := 0, locals := 0 } : Room).cells ({ frames := 0, cells := 0, slots := 0, locals := 0 } : Room).slots) _
  refine own_cast (ef_rmB m a) ?_
  show own_Ends _ _ _ _ (s₁.setTop (mkF m 0 #[.val (.ref a)] []))
  refine own_to (fun _ kont => XS.aloadN X0.here hx rfl (hb hby d5_0) rfl rfl kont) ?_
  show own_Ends _ _ _ _ (s₁.setTop (mkF m 1 #[.val (.ref a)] [(.ref a)]))
  obtain ⟨T1, X1, e1, st1⟩ := getF X0 hx hZ hown (host := "") (Or.inl (ow34 hw)) Via.refl e0 (F_a.ext O0.2) (g := (mkF m 1 #[.val (.ref a)] [(.ref a)])) rfl rfl (hb hby d5_1)
  refine own_to st1 ?_
  show own_Ends _ _ _ _ (T1.setTop (mkF m 4 #[.val (.ref a)] [(.int 128)]))
  refine own_leave X1 (v := some (.int (128 : Int32))) (fun h => by rw [Bd.returns] at h; cases h) ?_ (by decide) (by decide) (fun fs hr => retOut X1 hx Bd.returns rfl (Or.inl ⟨rfl, Or.inl rfl, _, rfl⟩) (hb hby d5_4) hr)
  show Q_rmB Z a h0 n0 _ T1.heap _
  rw [e1]
  exact ⟨rfl, N0, rfl⟩
theorem d6_0 : decode prog_15_method_8_code 0 = .ok (.iload_n 2, 1) := by decide +kernel
theorem d6_1 : decode prog_15_method_8_code 1 = .ok (.ifCond .gt 5, 3) := by decide +kernel
theorem d6_4 : decode prog_15_method_8_code 4 = .ok (.lconst 0, 1) := by decide +kernel
theorem d6_5 : decode prog_15_method_8_code 5 = .ok (.lreturn, 1) := by decide +kernel
theorem d6_6 : decode prog_15_method_8_code 6 = .ok (.iload_n 2, 1) := by decide +kernel
theorem d6_7 : decode prog_15_method_8_code 7 = .ok (.bipush 64, 2) := by decide +kernel
theorem d6_9 : decode prog_15_method_8_code 9 = .ok (.if_icmp .lt 5, 3) := by decide +kernel
theorem d6_12 : decode prog_15_method_8_code 12 = .ok (.lload_n 0, 1) := by decide +kernel
theorem d6_13 : decode prog_15_method_8_code 13 = .ok (.lreturn, 1) := by decide +kernel
theorem d6_14 : decode prog_15_method_8_code 14 = .ok (.lload_n 0, 1) := by decide +kernel
theorem d6_15 : decode prog_15_method_8_code 15 = .ok (.ldc2_w 143, 3) := by decide +kernel
theorem d6_18 : decode prog_15_method_8_code 18 = .ok (.bipush 64, 2) := by decide +kernel
theorem d6_20 : decode prog_15_method_8_code 20 = .ok (.iload_n 2, 1) := by decide +kernel
theorem d6_21 : decode prog_15_method_8_code 21 = .ok (.isub, 1) := by decide +kernel
theorem d6_22 : decode prog_15_method_8_code 22 = .ok (.lshl, 1) := by decide +kernel
theorem d6_23 : decode prog_15_method_8_code 23 = .ok (.land, 1) := by decide +kernel
theorem d6_24 : decode prog_15_method_8_code 24 = .ok (.lreturn, 1) := by decide +kernel
theorem pn_6 : plainName "com/example/routeward/routeward/net/IpPrefix" = true := by first | (simp [plainName, overriddenIn]; done) | decide +kernel
theorem ef_rmM (m : MethodId) (x : Int64) (k : Int32) : entryFrame m #[(.long x), (.int k)] 3 = mkF m 0 #[.val (.long x), .second, .val (.int k)] [] := by first | (simp [entryFrame, mkF, argsToLocals, Value.category]; done) | rfl | (rcases ref_cases hrf with rfl | ⟨q, rfl⟩ <;> rfl)
def Q_rmM (Z : State) (x : Int64) (k : Int32)  (h0 : Heap) (n0 : Nat) (v : Option Value) (h : Heap) (L : List Loc) : Prop := v = some (.long (own_mask x k)) ∧ Fr n0 L ∧ h = h0
set_option maxRecDepth 65536 in
set_option maxHeartbeats 40000000 in
theorem rmM (l : Launch) (Z : State) (a0 : Array Value) (hw : ∀ d ∈ tables_1, d.before a0 Z = true) (ws : List Jvm.Cond) (x : Int64) (k : Int32)  (h0 : Heap) (n0 : Nat) (O0 : Old Z n0 h0) :
    MetFree l oM3 (head1 (Jvm.Cond.code oM3 prog_15_method_8_code 3 (some .long) :: ws) ({ frames := 0, cells := 0, slots := 0, locals := 0 } : Room)) (fun aq_ U => aq_ = #[(.long x), (.int k)] ∧ Z.Warmed39 U.vm ∧ U.heap = h0) (fun _ _ _ _ _ => True) (fun _ U o U' => ∃ v L, o = .returned v ∧ Q_rmM Z x k h0 n0 v U'.heap L ∧ FrameEnd U o U' L ({ frames := 0, cells := 0, slots := 0, locals := 0 } : Room).cells ({ frames := 0, cells := 0, slots := 0, locals := 0 } : Room).slots) := by
  refine MetFree.of_bodySF (plainFor_of_name pn_6) hisR ?_
  intro p e s m args below meth c s₁ Bd hml0 hP hK
  obtain ⟨rfl, hZ, hh⟩ := hP
  have hx := Bd.exec
  have hby := Bd.bytes
  have hml : c.maxLocals = 3 := hml0
  have hown : s.vm.findClass "com/example/routeward/routeward/net/IpPrefix" = some m.cls := findClass_of_methodNamed Bd.named
  have hnm := (name_of_methodNamed Bd.named Bd.method).1
  have X0 : Stand p l e ({ frames := 0, cells := 0, slots := 0, locals := 0 } : Room) s m #[(.long x), (.int k)] below meth c s₁ [] 0 0 := Stand.of_body Bd
  have e0 : s₁.heap = h0 := by rw [← hh, Bd.state]; rfl
  have N0 := Fr.nil n0
  show own_Ends p.tables e below (own_P s (Q_rmM Z x k h0 n0) ({ frames := 0, cells := 0, slots := 0, locals := 0 } : Room).cells ({ frames := 0, cells := 0, slots := 0, locals := 0 } : Room).slots) _
  refine own_cast (ef_rmM m x k) ?_
  show own_Ends _ _ _ _ (s₁.setTop (mkF m 0 #[.val (.long x), .second, .val (.int k)] []))
  refine own_to (fun _ kont => XS.iloadN X0.here hx rfl (hb hby d6_0) rfl kont) ?_
  show own_Ends _ _ _ _ (s₁.setTop (mkF m 1 #[.val (.long x), .second, .val (.int k)] [(.int k)]))
  by_cases hc1_1 : (0 : Int32) < k
  · -- pc 1: (0 : Int32) < k
    refine own_to (fun _ kont => XS.ifYes X0.here hx rfl (pc0 := 1) (pc' := 6) rfl (hb hby d6_1) rfl ((if0 _ _).trans (tlt hc1_1).2.2.1) (by decide) (by decide) kont) ?_
    show own_Ends _ _ _ _ (s₁.setTop (mkF m 6 #[.val (.long x), .second, .val (.int k)] []))
    refine own_to (fun _ kont => XS.iloadN X0.here hx rfl (hb hby d6_6) rfl kont) ?_
    show own_Ends _ _ _ _ (s₁.setTop (mkF m 7 #[.val (.long x), .second, .val (.int k)] [(.int k)]))
    refine own_to (fun _ kont => XS.bipush X0.here hx rfl (hb hby d6_7) kont) ?_
    show own_Ends _ _ _ _ (s₁.setTop (mkF m 9 #[.val (.long x), .second, .val (.int k)] [(.int 64), (.int k)]))
    by_cases hc9_2 : k < (64 : Int32)
    · -- pc 9: k < (64 : Int32)
      refine own_to (fun _ kont => XS.icmpYes X0.here hx rfl (pc0 := 9) (pc' := 14) rfl (hb hby d6_9) rfl (tlt hc9_2).1 (by decide) (by decide) kont) ?_
      show own_Ends _ _ _ _ (s₁.setTop (mkF m 14 #[.val (.long x), .second, .val (.int k)] []))
      refine own_to (fun _ kont => XS.lloadN X0.here hx rfl (hb hby d6_14) rfl kont) ?_
      show own_Ends _ _ _ _ (s₁.setTop (mkF m 15 #[.val (.long x), .second, .val (.int k)] [(.long x)]))
      refine own_to (X0.ldc2Long hx hown (mvT hZ (ow56 hw)) (g := (mkF m 15 #[.val (.long x), .second, .val (.int k)] [(.long x)])) rfl (hb hby d6_15)) ?_
      show own_Ends _ _ _ _ (s₁.setTop (mkF m 18 #[.val (.long x), .second, .val (.int k)] [(.long (-1 : Int64)), (.long x)]))
      refine own_to (fun _ kont => XS.bipush X0.here hx rfl (hb hby d6_18) kont) ?_
      show own_Ends _ _ _ _ (s₁.setTop (mkF m 20 #[.val (.long x), .second, .val (.int k)] [(.int 64), (.long (-1 : Int64)), (.long x)]))
      refine own_to (fun _ kont => XS.iloadN X0.here hx rfl (hb hby d6_20) rfl kont) ?_
      show own_Ends _ _ _ _ (s₁.setTop (mkF m 21 #[.val (.long x), .second, .val (.int k)] [(.int k), (.int 64), (.long (-1 : Int64)), (.long x)]))
      refine own_to (fun _ kont => XS.isub X0.here hx rfl (hb hby d6_21) rfl kont) ?_
      show own_Ends _ _ _ _ (s₁.setTop (mkF m 22 #[.val (.long x), .second, .val (.int k)] [(.int (64 - k)), (.long (-1 : Int64)), (.long x)]))
      refine own_to (fun _ kont => XS.lshl X0.here hx rfl (hb hby d6_22) rfl kont) ?_
      show own_Ends _ _ _ _ (s₁.setTop (mkF m 23 #[.val (.long x), .second, .val (.int k)] [(.long ((-1 : Int64) <<< ((64 - k) &&& 0x3f).toInt64)), (.long x)]))
      refine own_to (fun _ kont => XS.land X0.here hx rfl (hb hby d6_23) rfl kont) ?_
      show own_Ends _ _ _ _ (s₁.setTop (mkF m 24 #[.val (.long x), .second, .val (.int k)] [(.long (x &&& ((-1 : Int64) <<< ((64 - k) &&& 0x3f).toInt64)))]))
      refine own_leave X0 (v := some (.long (x &&& ((-1 : Int64) <<< (((64 : Int32) - k) &&& 0x3f).toInt64)))) (fun h => by rw [Bd.returns] at h; cases h) ?_ (by decide) (by decide) (fun fs hr => retOut X0 hx Bd.returns rfl (Or.inr (Or.inl ⟨rfl, rfl, _, rfl⟩)) (hb hby d6_24) hr)
      show Q_rmM Z x k h0 n0 _ s₁.heap _
      rw [e0]
      exact ⟨by simp [own_mask, *], N0, rfl⟩
    · -- pc 9: not k < (64 : Int32)
      refine own_to (fun _ kont => XS.icmpNo X0.here hx rfl (hb hby d6_9) rfl (flt hc9_2).1 kont) ?_
      show own_Ends _ _ _ _ (s₁.setTop (mkF m 12 #[.val (.long x), .second, .val (.int k)] []))
      refine own_to (fun _ kont => XS.lloadN X0.here hx rfl (hb hby d6_12) rfl kont) ?_
      show own_Ends _ _ _ _ (s₁.setTop (mkF m 13 #[.val (.long x), .second, .val (.int k)] [(.long x)]))
      refine own_leave X0 (v := some (.long x)) (fun h => by rw [Bd.returns] at h; cases h) ?_ (by decide) (by decide) (fun fs hr => retOut X0 hx Bd.returns rfl (Or.inr (Or.inl ⟨rfl, rfl, _, rfl⟩)) (hb hby d6_13) hr)
      show Q_rmM Z x k h0 n0 _ s₁.heap _
      rw [e0]
      exact ⟨by simp [own_mask, *], N0, rfl⟩
  · -- pc 1: not (0 : Int32) < k
    refine own_to (fun _ kont => XS.ifNo X0.here hx rfl (hb hby d6_1) rfl ((if0 _ _).trans (flt hc1_1).2.2.1) kont) ?_
    show own_Ends _ _ _ _ (s₁.setTop (mkF m 4 #[.val (.long x), .second, .val (.int k)] []))
    refine own_to (fun _ kont => XS.lconst X0.here hx rfl (hb hby d6_4) kont) ?_
    show own_Ends _ _ _ _ (s₁.setTop (mkF m 5 #[.val (.long x), .second, .val (.int k)] [(.long (0 : Int64))]))
    refine own_leave X0 (v := some (.long (0 : Int64))) (fun h => by rw [Bd.returns] at h; cases h) ?_ (by decide) (by decide) (fun fs hr => retOut X0 hx Bd.returns rfl (Or.inr (Or.inl ⟨rfl, rfl, _, rfl⟩)) (hb hby d6_5) hr)
    show Q_rmM Z x k h0 n0 _ s₁.heap _
    rw [e0]
    exact ⟨by simp [own_mask, *], N0, rfl⟩
theorem d1_0 : decode prog_15_method_1_code 0 = .ok (.aload_n 0, 1) := by decide +kernel
theorem d1_1 : decode prog_15_method_1_code 1 = .ok (.invokespecial 1, 3) := by decide +kernel
theorem d1_4 : decode prog_15_method_1_code 4 = .ok (.aload_n 1, 1) := by decide +kernel
theorem d1_5 : decode prog_15_method_1_code 5 = .ok (.ldc 7, 2) := by decide +kernel
theorem d1_7 : decode prog_15_method_1_code 7 = .ok (.invokestatic 9, 3) := by decide +kernel
theorem d1_10 : decode prog_15_method_1_code 10 = .ok (.pop, 1) := by decide +kernel
theorem d1_11 : decode prog_15_method_1_code 11 = .ok (.iload 6, 2) := by decide +kernel
theorem d1_13 : decode prog_15_method_1_code 13 = .ok (.ifCond .lt 12, 3) := by decide +kernel
theorem d1_16 : decode prog_15_method_1_code 16 = .ok (.iload 6, 2) := by decide +kernel
theorem d1_18 : decode prog_15_method_1_code 18 = .ok (.aload_n 1, 1) := by decide +kernel
theorem d1_19 : decode prog_15_method_1_code 19 = .ok (.invokevirtual 15, 3) := by decide +kernel
theorem d1_22 : decode prog_15_method_1_code 22 = .ok (.if_icmp .le 22, 3) := by decide +kernel
theorem d1_44 : decode prog_15_method_1_code 44 = .ok (.lload_n 2, 1) := by decide +kernel
theorem d1_45 : decode prog_15_method_1_code 45 = .ok (.iload 6, 2) := by decide +kernel
theorem d1_47 : decode prog_15_method_1_code 47 = .ok (.invokestatic 30, 3) := by decide +kernel
theorem d1_50 : decode prog_15_method_1_code 50 = .ok (.lload_n 2, 1) := by decide +kernel
theorem d1_51 : decode prog_15_method_1_code 51 = .ok (.lcmp, 1) := by decide +kernel
theorem d1_52 : decode prog_15_method_1_code 52 = .ok (.ifCond .ne 19, 3) := by decide +kernel
theorem d1_55 : decode prog_15_method_1_code 55 = .ok (.lload 4, 2) := by decide +kernel
theorem d1_57 : decode prog_15_method_1_code 57 = .ok (.iload 6, 2) := by decide +kernel
theorem d1_59 : decode prog_15_method_1_code 59 = .ok (.bipush 64, 2) := by decide +kernel
theorem d1_61 : decode prog_15_method_1_code 61 = .ok (.isub, 1) := by decide +kernel
theorem d1_62 : decode prog_15_method_1_code 62 = .ok (.invokestatic 30, 3) := by decide +kernel
theorem d1_65 : decode prog_15_method_1_code 65 = .ok (.lload 4, 2) := by decide +kernel
theorem d1_67 : decode prog_15_method_1_code 67 = .ok (.lcmp, 1) := by decide +kernel
theorem d1_68 : decode prog_15_method_1_code 68 = .ok (.ifCond .eq 13, 3) := by decide +kernel
theorem d1_81 : decode prog_15_method_1_code 81 = .ok (.aload_n 0, 1) := by decide +kernel
theorem d1_82 : decode prog_15_method_1_code 82 = .ok (.aload_n 1, 1) := by decide +kernel
theorem d1_83 : decode prog_15_method_1_code 83 = .ok (.putfield 38, 3) := by decide +kernel
theorem d1_86 : decode prog_15_method_1_code 86 = .ok (.aload_n 0, 1) := by decide +kernel
theorem d1_87 : decode prog_15_method_1_code 87 = .ok (.lload_n 2, 1) := by decide +kernel
theorem d1_88 : decode prog_15_method_1_code 88 = .ok (.putfield 41, 3) := by decide +kernel
theorem d1_91 : decode prog_15_method_1_code 91 = .ok (.aload_n 0, 1) := by decide +kernel
theorem d1_92 : decode prog_15_method_1_code 92 = .ok (.lload 4, 2) := by decide +kernel
theorem d1_94 : decode prog_15_method_1_code 94 = .ok (.putfield 45, 3) := by decide +kernel
theorem d1_97 : decode prog_15_method_1_code 97 = .ok (.aload_n 0, 1) := by decide +kernel
theorem d1_98 : decode prog_15_method_1_code 98 = .ok (.iload 6, 2) := by decide +kernel
theorem d1_100 : decode prog_15_method_1_code 100 = .ok (.putfield 48, 3) := by decide +kernel
theorem d1_103 : decode prog_15_method_1_code 103 = .ok (.return_, 1) := by decide +kernel
theorem pn_1 : plainName "com/example/routeward/routeward/net/IpPrefix" = true := by first | (simp [plainName, overriddenIn]; done) | decide +kernel
theorem pd_0 : parseMethodDescriptor "()V" = some ⟨[], none⟩ := by decide +kernel
theorem pd_1 : parseMethodDescriptor "(Ljava/lang/Object;Ljava/lang/String;)Ljava/lang/Object;" = some ⟨[(.object "java/lang/Object"), (.object "java/lang/String")], some (.object "java/lang/Object")⟩ := by decide +kernel
theorem pd_2 : parseMethodDescriptor "()I" = some ⟨[], some .int⟩ := by decide +kernel
theorem pd_3 : parseMethodDescriptor "(JI)J" = some ⟨[.long, .int], some .long⟩ := by decide +kernel
theorem ef_rmI (m : MethodId) (a : Addr) (v6 : Addr) (x1 : Int64) (x2 : Int64)  : entryFrame m #[(.ref a), (.ref v6), (.long x1), (.long x2), (.int (128 : Int32))] 7 = mkF m 0 #[.val (.ref a), .val (.ref v6), .val (.long x1), .second, .val (.long x2), .second, .val (.int (128 : Int32))] [] := by first | (simp [entryFrame, mkF, argsToLocals, Value.category]; done) | rfl | (rcases ref_cases hrf with rfl | ⟨q, rfl⟩ <;> rfl)
def Q_rmI (Z : State) (a : Addr) (v6 : Addr) (x1 : Int64) (x2 : Int64)  (h0 : Heap) (n0 : Nat) (v : Option Value) (h : Heap) (L : List Loc) : Prop := v = none ∧ Fr n0 L ∧ Old Z n0 h ∧ Keep h0 h [a] ∧ Exa Z h a "com/example/routeward/routeward/net/IpPrefix" ∧ Fld Z h a "com/example/routeward/routeward/net/IpPrefix" "low" "J" (.long x2)
set_option maxRecDepth 65536 in
set_option maxHeartbeats 40000000 in
theorem rmI (l : Launch) (Z : State) (a0 : Array Value) (hw : ∀ d ∈ tables_1, d.before a0 Z = true) (ws : List Jvm.Cond) (a : Addr) (v6 : Addr) (x1 : Int64) (x2 : Int64)  (h0 : Heap) (n0 : Nat) (O0 : Old Z n0 h0) (g_a : n0 ≤ a) (E_a : Exa Z h0 a "com/example/routeward/routeward/net/IpPrefix") (F_family : Fld Z h0 a "com/example/routeward/routeward/net/IpPrefix" "family" "Lcom/example/routeward/routeward/net/IpFamily;" .null) (F_high : Fld Z h0 a "com/example/routeward/routeward/net/IpPrefix" "high" "J" (.long (0 : Int64))) (F_low : Fld Z h0 a "com/example/routeward/routeward/net/IpPrefix" "low" "J" (.long (0 : Int64))) (F_length : Fld Z h0 a "com/example/routeward/routeward/net/IpPrefix" "length" "I" (.int (0 : Int32))) (E_v6 : Exa Z Z.heap v6 "com/example/routeward/routeward/net/IpFamily") (F_v6 : Fld Z Z.heap v6 "com/example/routeward/routeward/net/IpFamily" "bits" "I" (.int (128 : Int32))) :
    MetFree l oM4 (head1 (Jvm.Cond.code oM4 prog_15_method_1_code 7 none :: ws) ({ frames := 2, cells := 2, slots := 28, locals := 40 } : Room)) (fun aq_ U => aq_ = #[(.ref a), (.ref v6), (.long x1), (.long x2), (.int (128 : Int32))] ∧ Z.Warmed39 U.vm ∧ U.heap = h0) (fun _ _ _ _ _ => True) (fun _ U o U' => ∃ v L, o = .returned v ∧ Q_rmI Z a v6 x1 x2 h0 n0 v U'.heap L ∧ ReturnedEndW U o U' L ({ frames := 2, cells := 2, slots := 28, locals := 40 } : Room).cells ({ frames := 2, cells := 2, slots := 28, locals := 40 } : Room).slots) := by
  refine MetFree.of_bodySF (plainFor_of_name pn_1) hisR ?_
  intro p e s m args below meth c s₁ Bd hml0 hP hK
  obtain ⟨rfl, hZ, hh⟩ := hP
  have hx := Bd.exec
  have hby := Bd.bytes
  have hml : c.maxLocals = 7 := hml0
  have hown : s.vm.findClass "com/example/routeward/routeward/net/IpPrefix" = some m.cls := findClass_of_methodNamed Bd.named
  have hnm := (name_of_methodNamed Bd.named Bd.method).1
  have X0 : Stand p l e ({ frames := 2, cells := 2, slots := 28, locals := 40 } : Room) (s.setVm s.vm) m #[(.ref a), (.ref v6), (.long x1), (.long x2), (.int (128 : Int32))] below meth c s₁ [] 0 0 := Stand.of_body Bd
  have e0 : s₁.heap = h0 := by rw [← hh, Bd.state]; rfl
  have N0 := Fr.nil n0
  have hS0 : s.Since s.vm 0 := (State.WarmedH.refl s).since 0
  show own_Ends p.tables e below (own_PW s (Q_rmI Z a v6 x1 x2 h0 n0) ({ frames := 2, cells := 2, slots := 28, locals := 40 } : Room).cells ({ frames := 2, cells := 2, slots := 28, locals := 40 } : Room).slots) _
  refine own_cast (ef_rmI m a v6 x1 x2) ?_
  have K0 := Keep.refl h0 [a]
  show own_Ends _ _ _ _ (s₁.setTop (mkF m 0 #[.val (.ref a), .val (.ref v6), .val (.long x1), .second, .val (.long x2), .second, .val (.int 128)] []))
  refine own_to (fun _ kont => XS.aloadN X0.here hx rfl (hb hby d1_0) rfl rfl kont) ?_
  show own_Ends _ _ _ _ (s₁.setTop (mkF m 1 #[.val (.ref a), .val (.ref v6), .val (.long x1), .second, .val (.long x2), .second, .val (.int 128)] [(.ref a)]))
  obtain ⟨_, _, ⟨T1, L1, k1, n1⟩, -, X1, ⟨Lc1, hQ1, l1, y1, z1⟩, st1⟩ := X0.specialBack hx (y := oM0) rfl hown (mvT hZ (ow9 hw)) (mvT hZ (ow10 hw)) (mvT hZ (ow13 hw)) (by decide) (backOf (W := 0) (rmR l Z a0 hw [] a  h0 n0 O0 ) hZ (ow13 hw) (ow12 hw) (by decide) (by decide)) (g := (mkF m 1 #[.val (.ref a), .val (.ref v6), .val (.long x1), .second, .val (.long x2), .second, .val (.int (128 : Int32))] [(.ref a)])) rfl (by rw [hml]; rfl) (Steps.refl _) (a := a) (argsL := []) (rest := []) (lenOf pd_0 rfl) rfl (by show 2 * 0 + _ ≤ _; exact Nat.le_of_eq rfl) (hb hby d1_1) (fun _ _ => ⟨rfl, e0, (own_le rfl), (own_le rfl)⟩)
  dsimp only [Pt.U, Pt.locs, Pt.cells, Pt.slots] at X1 l1 y1 z1 st1 hQ1
  subst l1 y1 z1
  obtain ⟨rfl, N1q, E1⟩ := hQ1
  have N1 := Fr.app N0 N1q
  refine own_tr st1 ?_
  show own_Ends _ _ _ _ (T1.setTop (mkF m 4 #[.val (.ref a), .val (.ref v6), .val (.long x1), .second, .val (.long x2), .second, .val (.int 128)] []))
  refine own_to (fun _ kont => XS.aloadN X1.here hx rfl (hb hby d1_4) rfl rfl kont) ?_
  show own_Ends _ _ _ _ (T1.setTop (mkF m 5 #[.val (.ref a), .val (.ref v6), .val (.long x1), .second, .val (.long x2), .second, .val (.int 128)] [(.ref v6)]))
  obtain ⟨u2, T2, h2, k2, X2, e2, E2, hS2, hk2, hZ, hown, st2⟩ := ldcS (s := s) X1 hx hZ hown (ow17 hw) (own_str hw) E1 hS0 (Nat.zero_le _) (g := (mkF m 5 #[.val (.ref a), .val (.ref v6), .val (.long x1), .second, .val (.long x2), .second, .val (.int (128 : Int32))] [(.ref v6)])) rfl (hb hby d1_5) (n := 24) (by decide) (by decide) (by decide) (by decide)
  refine own_to st2 ?_
  have O2 := O0.ext E2
  have K2 := K0.ext E2
  show own_Ends _ _ _ _ (T2.setTop (mkF m 7 #[.val (.ref a), .val (.ref v6), .val (.long x1), .second, .val (.long x2), .second, .val (.int 128)] [(.ref u2), (.ref v6)]))
  obtain ⟨_, _, ⟨T3, L3, k3, n3⟩, -, X3, ⟨Lc3, hQ3, l3, y3, z3⟩, st3⟩ := Jvm.LawKit.callS X2 hx (y := oM1) hown (mvT hZ (ow25 hw)) (mvT hZ (ow26 hw)) (mvT hZ (ow27 hw)) (mvT hZ (ow28 hw)) (by decide) (backOf (W := 0) (rmN l Z a0 hw [] v6 u2  h2 n0 O2 ) hZ (ow28 hw) (ow27 hw) (by decide) (by decide)) (g := (mkF m 7 #[.val (.ref a), .val (.ref v6), .val (.long x1), .second, .val (.long x2), .second, .val (.int (128 : Int32))] [(.ref u2), (.ref v6)])) rfl (by rw [hml]; rfl) (argsL := [(.ref v6), (.ref u2)]) (rest := []) (lenOf pd_1 rfl) rfl (by show 2 * 0 + _ ≤ _; exact Nat.le_of_eq rfl) (hb hby d1_7) (fun _ _ => ⟨rfl, e2, (own_le rfl), (own_le rfl)⟩)
  dsimp only [Pt.U, Pt.locs, Pt.cells, Pt.slots] at X3 l3 y3 z3 st3 hQ3
  subst l3 y3 z3
  obtain ⟨rfl, N3q, E3⟩ := hQ3
  have N3 := Fr.app N1 N3q
  refine own_to st3 ?_
  show own_Ends _ _ _ _ (T3.setTop (mkF m 10 #[.val (.ref a), .val (.ref v6), .val (.long x1), .second, .val (.long x2), .second, .val (.int 128)] [(.ref v6)]))
  refine own_to (fun _ kont => XS.pop X3.here hx rfl (hb hby d1_10) rfl rfl kont) ?_
  show own_Ends _ _ _ _ (T3.setTop (mkF m 11 #[.val (.ref a), .val (.ref v6), .val (.long x1), .second, .val (.long x2), .second, .val (.int 128)] []))
  refine own_to (fun _ kont => XS.iload X3.here hx rfl (hb hby d1_11) rfl kont) ?_
  show own_Ends _ _ _ _ (T3.setTop (mkF m 13 #[.val (.ref a), .val (.ref v6), .val (.long x1), .second, .val (.long x2), .second, .val (.int 128)] [(.int 128)]))
  refine own_to (fun _ kont => XS.ifNo X3.here hx rfl (hb hby d1_13) rfl ((if0 _ _).trans (flt (by decide)).1) kont) ?_
  show own_Ends _ _ _ _ (T3.setTop (mkF m 16 #[.val (.ref a), .val (.ref v6), .val (.long x1), .second, .val (.long x2), .second, .val (.int 128)] []))
  refine own_to (fun _ kont => XS.iload X3.here hx rfl (hb hby d1_16) rfl kont) ?_
  show own_Ends _ _ _ _ (T3.setTop (mkF m 18 #[.val (.ref a), .val (.ref v6), .val (.long x1), .second, .val (.long x2), .second, .val (.int 128)] [(.int 128)]))
  refine own_to (fun _ kont => XS.aloadN X3.here hx rfl (hb hby d1_18) rfl rfl kont) ?_
  show own_Ends _ _ _ _ (T3.setTop (mkF m 19 #[.val (.ref a), .val (.ref v6), .val (.long x1), .second, .val (.long x2), .second, .val (.int 128)] [(.ref v6), (.int 128)]))
  obtain ⟨cq4, kq4, q4a, q4b, q4c⟩ := isOf hZ E3 (E_v6.ext O2.2)
  obtain ⟨_, _, ⟨T4, L4, k4, n4⟩, -, X4, ⟨Lc4, hQ4, l4, y4, z4⟩, st4⟩ := X3.virtualBack hx (y := oM2) (z := oM2) hown (mvT hZ (ow29 hw)) (mvT hZ (ow30 hw)) (notFace_of_selects (args := #[]) (mvT hZ (ow32 hw))) (mvT hZ (ow32 hw)) (mvT hZ (ow31 hw)) (by decide) (backOf (W := 1) (rmB l Z a0 hw [] v6  h2 n0 O2 F_v6) hZ (ow33 hw) (ow4 hw) (by decide) (by decide)) q4a q4c (g := (mkF m 19 #[.val (.ref a), .val (.ref v6), .val (.long x1), .second, .val (.long x2), .second, .val (.int (128 : Int32))] [(.ref v6), (.int (128 : Int32))])) rfl (by rw [hml]; rfl) (Steps.refl _) (argsL := []) (rest := [(.int (128 : Int32))]) (lenOf pd_2 rfl) rfl (by show 2 * 0 + _ ≤ _; exact Nat.le_of_eq rfl) (hb hby d1_19) (fun _ _ => ⟨rfl, E3, (own_le rfl), (own_le rfl)⟩)
  dsimp only [Pt.U, Pt.locs, Pt.cells, Pt.slots] at X4 l4 y4 z4 st4 hQ4
  subst l4 y4 z4
  obtain ⟨rfl, N4q, E4⟩ := hQ4
  have N4 := Fr.app N3 N4q
  refine own_tr st4 ?_
  show own_Ends _ _ _ _ (T4.setTop (mkF m 22 #[.val (.ref a), .val (.ref v6), .val (.long x1), .second, .val (.long x2), .second, .val (.int 128)] [(.int 128), (.int 128)]))
  refine own_to (fun _ kont => XS.icmpYes X4.here hx rfl (pc0 := 22) (pc' := 44) rfl (hb hby d1_22) rfl (flt (by decide)).2.2.2 (by decide) (by decide) kont) ?_
  show own_Ends _ _ _ _ (T4.setTop (mkF m 44 #[.val (.ref a), .val (.ref v6), .val (.long x1), .second, .val (.long x2), .second, .val (.int 128)] []))
  refine own_to (fun _ kont => XS.lloadN X4.here hx rfl (hb hby d1_44) rfl kont) ?_
  show own_Ends _ _ _ _ (T4.setTop (mkF m 45 #[.val (.ref a), .val (.ref v6), .val (.long x1), .second, .val (.long x2), .second, .val (.int 128)] [(.long x1)]))
  refine own_to (fun _ kont => XS.iload X4.here hx rfl (hb hby d1_45) rfl kont) ?_
  show own_Ends _ _ _ _ (T4.setTop (mkF m 47 #[.val (.ref a), .val (.ref v6), .val (.long x1), .second, .val (.long x2), .second, .val (.int 128)] [(.int 128), (.long x1)]))
  obtain ⟨_, _, ⟨T5, L5, k5, n5⟩, -, X5, ⟨Lc5, hQ5, l5, y5, z5⟩, st5⟩ := Jvm.LawKit.callS X4 hx (y := oM3) hown (mvT hZ (ow36 hw)) (mvT hZ (ow37 hw)) (mvT hZ (ow2 hw)) (mvT hZ (ow38 hw)) (by decide) (backOf (W := 0) (rmM l Z a0 hw [] x1 (128 : Int32)  h2 n0 O2 ) hZ (ow38 hw) (ow2 hw) (by decide) (by decide)) (g := (mkF m 47 #[.val (.ref a), .val (.ref v6), .val (.long x1), .second, .val (.long x2), .second, .val (.int (128 : Int32))] [(.int (128 : Int32)), (.long x1)])) rfl (by rw [hml]; rfl) (argsL := [(.long x1), (.int (128 : Int32))]) (rest := []) (lenOf pd_3 rfl) rfl (by show 2 * 0 + _ ≤ _; exact Nat.le_of_eq rfl) (hb hby d1_47) (fun _ _ => ⟨rfl, E4, (own_le rfl), (own_le rfl)⟩)
  dsimp only [Pt.U, Pt.locs, Pt.cells, Pt.slots] at X5 l5 y5 z5 st5 hQ5
  subst l5 y5 z5
  obtain ⟨hv5, N5q, E5⟩ := hQ5
  rw [own_mask128] at hv5
  subst hv5
  have N5 := Fr.app N4 N5q
  refine own_to st5 ?_
  show own_Ends _ _ _ _ (T5.setTop (mkF m 50 #[.val (.ref a), .val (.ref v6), .val (.long x1), .second, .val (.long x2), .second, .val (.int 128)] [(.long x1)]))
  refine own_to (fun _ kont => XS.lloadN X5.here hx rfl (hb hby d1_50) rfl kont) ?_
  show own_Ends _ _ _ _ (T5.setTop (mkF m 51 #[.val (.ref a), .val (.ref v6), .val (.long x1), .second, .val (.long x2), .second, .val (.int 128)] [(.long x1), (.long x1)]))
  refine own_to (fun _ kont => XS.lcmp X5.here hx rfl (hb hby d1_51) rfl kont) ?_
  show own_Ends _ _ _ _ (T5.setTop (mkF m 52 #[.val (.ref a), .val (.ref v6), .val (.long x1), .second, .val (.long x2), .second, .val (.int 128)] [(.int (lcmpW x1 x1))]))
  refine own_to (fun _ kont => XS.ifNo X5.here hx rfl (hb hby d1_52) rfl ((if0 _ _).trans (teq ((lw_eq _ _).mpr rfl)).2) kont) ?_
  show own_Ends _ _ _ _ (T5.setTop (mkF m 55 #[.val (.ref a), .val (.ref v6), .val (.long x1), .second, .val (.long x2), .second, .val (.int 128)] []))
  refine own_to (fun _ kont => XS.lload X5.here hx rfl (hb hby d1_55) rfl kont) ?_
  show own_Ends _ _ _ _ (T5.setTop (mkF m 57 #[.val (.ref a), .val (.ref v6), .val (.long x1), .second, .val (.long x2), .second, .val (.int 128)] [(.long x2)]))
  refine own_to (fun _ kont => XS.iload X5.here hx rfl (hb hby d1_57) rfl kont) ?_
  show own_Ends _ _ _ _ (T5.setTop (mkF m 59 #[.val (.ref a), .val (.ref v6), .val (.long x1), .second, .val (.long x2), .second, .val (.int 128)] [(.int 128), (.long x2)]))
  refine own_to (fun _ kont => XS.bipush X5.here hx rfl (hb hby d1_59) kont) ?_
  show own_Ends _ _ _ _ (T5.setTop (mkF m 61 #[.val (.ref a), .val (.ref v6), .val (.long x1), .second, .val (.long x2), .second, .val (.int 128)] [(.int 64), (.int 128), (.long x2)]))
  refine own_to (fun _ kont => XS.isub X5.here hx rfl (hb hby d1_61) rfl kont) ?_
  show own_Ends _ _ _ _ (T5.setTop (mkF m 62 #[.val (.ref a), .val (.ref v6), .val (.long x1), .second, .val (.long x2), .second, .val (.int 128)] [(.int 64), (.long x2)]))
  obtain ⟨_, _, ⟨T6, L6, k6, n6⟩, -, X6, ⟨Lc6, hQ6, l6, y6, z6⟩, st6⟩ := Jvm.LawKit.callS X5 hx (y := oM3) hown (mvT hZ (ow36 hw)) (mvT hZ (ow37 hw)) (mvT hZ (ow2 hw)) (mvT hZ (ow38 hw)) (by decide) (backOf (W := 0) (rmM l Z a0 hw [] x2 (64 : Int32)  h2 n0 O2 ) hZ (ow38 hw) (ow2 hw) (by decide) (by decide)) (g := (mkF m 62 #[.val (.ref a), .val (.ref v6), .val (.long x1), .second, .val (.long x2), .second, .val (.int (128 : Int32))] [(.int (64 : Int32)), (.long x2)])) rfl (by rw [hml]; rfl) (argsL := [(.long x2), (.int (64 : Int32))]) (rest := []) (lenOf pd_3 rfl) rfl (by show 2 * 0 + _ ≤ _; exact Nat.le_of_eq rfl) (hb hby d1_62) (fun _ _ => ⟨rfl, E5, (own_le rfl), (own_le rfl)⟩)
  dsimp only [Pt.U, Pt.locs, Pt.cells, Pt.slots] at X6 l6 y6 z6 st6 hQ6
  subst l6 y6 z6
  obtain ⟨hv6, N6q, E6⟩ := hQ6
  rw [own_mask64] at hv6
  subst hv6
  have N6 := Fr.app N5 N6q
  refine own_to st6 ?_
  show own_Ends _ _ _ _ (T6.setTop (mkF m 65 #[.val (.ref a), .val (.ref v6), .val (.long x1), .second, .val (.long x2), .second, .val (.int 128)] [(.long x2)]))
  refine own_to (fun _ kont => XS.lload X6.here hx rfl (hb hby d1_65) rfl kont) ?_
  show own_Ends _ _ _ _ (T6.setTop (mkF m 67 #[.val (.ref a), .val (.ref v6), .val (.long x1), .second, .val (.long x2), .second, .val (.int 128)] [(.long x2), (.long x2)]))
  refine own_to (fun _ kont => XS.lcmp X6.here hx rfl (hb hby d1_67) rfl kont) ?_
  show own_Ends _ _ _ _ (T6.setTop (mkF m 68 #[.val (.ref a), .val (.ref v6), .val (.long x1), .second, .val (.long x2), .second, .val (.int 128)] [(.int (lcmpW x2 x2))]))
  refine own_to (fun _ kont => XS.ifYes X6.here hx rfl (pc0 := 68) (pc' := 81) rfl (hb hby d1_68) rfl ((if0 _ _).trans (teq ((lw_eq _ _).mpr rfl)).1) (by decide) (by decide) kont) ?_
  show own_Ends _ _ _ _ (T6.setTop (mkF m 81 #[.val (.ref a), .val (.ref v6), .val (.long x1), .second, .val (.long x2), .second, .val (.int 128)] []))
  refine own_to (fun _ kont => XS.aloadN X6.here hx rfl (hb hby d1_81) rfl rfl kont) ?_
  show own_Ends _ _ _ _ (T6.setTop (mkF m 82 #[.val (.ref a), .val (.ref v6), .val (.long x1), .second, .val (.long x2), .second, .val (.int 128)] [(.ref a)]))
  refine own_to (fun _ kont => XS.aloadN X6.here hx rfl (hb hby d1_82) rfl rfl kont) ?_
  show own_Ends _ _ _ _ (T6.setTop (mkF m 83 #[.val (.ref a), .val (.ref v6), .val (.long x1), .second, .val (.long x2), .second, .val (.int 128)] [(.ref v6), (.ref a)]))
  obtain ⟨T7, h7, X7, e7, W7, st7⟩ := putF X6 hx hZ hown (host := "") (Or.inl (ow39 hw)) Via.refl E6 (F_family.ext E2) (E_a.ext E2) (Or.inr ⟨(ow40 hw), rfl, hnm⟩) (ow1 hw) (ty := (.object "com/example/routeward/routeward/net/IpFamily")) (by decide) rfl rfl (g := (mkF m 83 #[.val (.ref a), .val (.ref v6), .val (.long x1), .second, .val (.long x2), .second, .val (.int (128 : Int32))] [(.ref v6), (.ref a)])) rfl rfl (hb hby d1_83)
  refine own_to st7 ?_
  have Fw7 : Fld Z h7 a "com/example/routeward/routeward/net/IpPrefix" "family" "Lcom/example/routeward/routeward/net/IpFamily;" (.ref v6) := (F_family.ext E2).same W7
  have O7 := O2.wr W7 g_a
  have N7 := Fr.snoc X7 N6 g_a
  have K7 := K2.wr W7 (Or.inl (List.mem_of_getElem? (i := 0) rfl))
  show own_Ends _ _ _ _ (T7.setTop (mkF m 86 #[.val (.ref a), .val (.ref v6), .val (.long x1), .second, .val (.long x2), .second, .val (.int 128)] []))
  refine own_to (fun _ kont => XS.aloadN X7.here hx rfl (hb hby d1_86) rfl rfl kont) ?_
  show own_Ends _ _ _ _ (T7.setTop (mkF m 87 #[.val (.ref a), .val (.ref v6), .val (.long x1), .second, .val (.long x2), .second, .val (.int 128)] [(.ref a)]))
  refine own_to (fun _ kont => XS.lloadN X7.here hx rfl (hb hby d1_87) rfl kont) ?_
  show own_Ends _ _ _ _ (T7.setTop (mkF m 88 #[.val (.ref a), .val (.ref v6), .val (.long x1), .second, .val (.long x2), .second, .val (.int 128)] [(.long x1), (.ref a)]))
  obtain ⟨T8, h8, X8, e8, W8, st8⟩ := putF X7 hx hZ hown (host := "") (Or.inl (ow41 hw)) Via.refl e7 ((F_high.ext E2).other W7 (Or.inr (slot_ne (Or.inr (ow42 hw)) (Or.inr (ow40 hw)) (by decide) (t := .long) (t' := (.object "com/example/routeward/routeward/net/IpFamily")) (by decide) (by decide)))) ((E_a.ext E2).wr W7) (Or.inr ⟨(ow42 hw), rfl, hnm⟩) (ow1 hw) (ty := .long) (by decide) rfl rfl (g := (mkF m 88 #[.val (.ref a), .val (.ref v6), .val (.long x1), .second, .val (.long x2), .second, .val (.int (128 : Int32))] [(.long x1), (.ref a)])) rfl rfl (hb hby d1_88)
  refine own_to st8 ?_
  have Fw8 : Fld Z h8 a "com/example/routeward/routeward/net/IpPrefix" "high" "J" (.long x1) := ((F_high.ext E2).other W7 (Or.inr (slot_ne (Or.inr (ow42 hw)) (Or.inr (ow40 hw)) (by decide) (t := .long) (t' := (.object "com/example/routeward/routeward/net/IpFamily")) (by decide) (by decide)))).same W8
  have O8 := O7.wr W8 g_a
  have N8 := Fr.snoc X8 N7 g_a
  have K8 := K7.wr W8 (Or.inl (List.mem_of_getElem? (i := 0) rfl))
  show own_Ends _ _ _ _ (T8.setTop (mkF m 91 #[.val (.ref a), .val (.ref v6), .val (.long x1), .second, .val (.long x2), .second, .val (.int 128)] []))
  refine own_to (fun _ kont => XS.aloadN X8.here hx rfl (hb hby d1_91) rfl rfl kont) ?_
  show own_Ends _ _ _ _ (T8.setTop (mkF m 92 #[.val (.ref a), .val (.ref v6), .val (.long x1), .second, .val (.long x2), .second, .val (.int 128)] [(.ref a)]))
  refine own_to (fun _ kont => XS.lload X8.here hx rfl (hb hby d1_92) rfl kont) ?_
  show own_Ends _ _ _ _ (T8.setTop (mkF m 94 #[.val (.ref a), .val (.ref v6), .val (.long x1), .second, .val (.long x2), .second, .val (.int 128)] [(.long x2), (.ref a)]))
  obtain ⟨T9, h9, X9, e9, W9, st9⟩ := putF X8 hx hZ hown (host := "") (Or.inl (ow43 hw)) Via.refl e8 (((F_low.ext E2).other W7 (Or.inr (slot_ne (Or.inr (ow44 hw)) (Or.inr (ow40 hw)) (by decide) (t := .long) (t' := (.object "com/example/routeward/routeward/net/IpFamily")) (by decide) (by decide)))).other W8 (Or.inr (slot_ne (Or.inr (ow44 hw)) (Or.inr (ow42 hw)) (by decide) (t := .long) (t' := .long) (by decide) (by decide)))) (((E_a.ext E2).wr W7).wr W8) (Or.inr ⟨(ow44 hw), rfl, hnm⟩) (ow1 hw) (ty := .long) (by decide) rfl rfl (g := (mkF m 94 #[.val (.ref a), .val (.ref v6), .val (.long x1), .second, .val (.long x2), .second, .val (.int (128 : Int32))] [(.long x2), (.ref a)])) rfl rfl (hb hby d1_94)
  refine own_to st9 ?_
  have Fw9 : Fld Z h9 a "com/example/routeward/routeward/net/IpPrefix" "low" "J" (.long x2) := (((F_low.ext E2).other W7 (Or.inr (slot_ne (Or.inr (ow44 hw)) (Or.inr (ow40 hw)) (by decide) (t := .long) (t' := (.object "com/example/routeward/routeward/net/IpFamily")) (by decide) (by decide)))).other W8 (Or.inr (slot_ne (Or.inr (ow44 hw)) (Or.inr (ow42 hw)) (by decide) (t := .long) (t' := .long) (by decide) (by decide)))).same W9
  have O9 := O8.wr W9 g_a
  have N9 := Fr.snoc X9 N8 g_a
  have K9 := K8.wr W9 (Or.inl (List.mem_of_getElem? (i := 0) rfl))
  show own_Ends _ _ _ _ (T9.setTop (mkF m 97 #[.val (.ref a), .val (.ref v6), .val (.long x1), .second, .val (.long x2), .second, .val (.int 128)] []))
  refine own_to (fun _ kont => XS.aloadN X9.here hx rfl (hb hby d1_97) rfl rfl kont) ?_
  show own_Ends _ _ _ _ (T9.setTop (mkF m 98 #[.val (.ref a), .val (.ref v6), .val (.long x1), .second, .val (.long x2), .second, .val (.int 128)] [(.ref a)]))
  refine own_to (fun _ kont => XS.iload X9.here hx rfl (hb hby d1_98) rfl kont) ?_
  show own_Ends _ _ _ _ (T9.setTop (mkF m 100 #[.val (.ref a), .val (.ref v6), .val (.long x1), .second, .val (.long x2), .second, .val (.int 128)] [(.int 128), (.ref a)]))
  obtain ⟨T10, h10, X10, e10, W10, st10⟩ := putF X9 hx hZ hown (host := "") (Or.inl (ow45 hw)) Via.refl e9 ((((F_length.ext E2).other W7 (Or.inr (slot_ne (Or.inr (ow46 hw)) (Or.inr (ow40 hw)) (by decide) (t := .int) (t' := (.object "com/example/routeward/routeward/net/IpFamily")) (by decide) (by decide)))).other W8 (Or.inr (slot_ne (Or.inr (ow46 hw)) (Or.inr (ow42 hw)) (by decide) (t := .int) (t' := .long) (by decide) (by decide)))).other W9 (Or.inr (slot_ne (Or.inr (ow46 hw)) (Or.inr (ow44 hw)) (by decide) (t := .int) (t' := .long) (by decide) (by decide)))) ((((E_a.ext E2).wr W7).wr W8).wr W9) (Or.inr ⟨(ow46 hw), rfl, hnm⟩) (ow1 hw) (ty := .int) (by decide) rfl rfl (g := (mkF m 100 #[.val (.ref a), .val (.ref v6), .val (.long x1), .second, .val (.long x2), .second, .val (.int (128 : Int32))] [(.int (128 : Int32)), (.ref a)])) rfl rfl (hb hby d1_100)
  refine own_to st10 ?_
  have Fw10 : Fld Z h10 a "com/example/routeward/routeward/net/IpPrefix" "length" "I" (.int (128 : Int32)) := ((((F_length.ext E2).other W7 (Or.inr (slot_ne (Or.inr (ow46 hw)) (Or.inr (ow40 hw)) (by decide) (t := .int) (t' := (.object "com/example/routeward/routeward/net/IpFamily")) (by decide) (by decide)))).other W8 (Or.inr (slot_ne (Or.inr (ow46 hw)) (Or.inr (ow42 hw)) (by decide) (t := .int) (t' := .long) (by decide) (by decide)))).other W9 (Or.inr (slot_ne (Or.inr (ow46 hw)) (Or.inr (ow44 hw)) (by decide) (t := .int) (t' := .long) (by decide) (by decide)))).same W10
  have O10 := O9.wr W10 g_a
  have N10 := Fr.snoc X10 N9 g_a
  have K10 := K9.wr W10 (Or.inl (List.mem_of_getElem? (i := 0) rfl))
  show own_Ends _ _ _ _ (T10.setTop (mkF m 103 #[.val (.ref a), .val (.ref v6), .val (.long x1), .second, .val (.long x2), .second, .val (.int 128)] []))
  refine own_leaveW X10 hS2 (by rw [e10]; exact (Nat.le_trans (Nat.le_trans (Nat.le_trans (Nat.le_trans hk2 (Nat.le_of_eq (Wr.size W7).symm)) (Nat.le_of_eq (Wr.size W8).symm)) (Nat.le_of_eq (Wr.size W9).symm)) (Nat.le_of_eq (Wr.size W10).symm))) (v := none) (fun _ => rfl) ?_ (by decide) (by decide) (fun fs hr => X10.returnOut hx Bd.returns (hb hby d1_103) hr)
  show Q_rmI Z a v6 x1 x2 h0 n0 _ T10.heap _
  rw [e10]
  exact ⟨rfl, N10, O10, K10, (((((E_a.ext E2).wr W7).wr W8).wr W9).wr W10), (Fw9.other W10 (Or.inr (slot_ne (Or.inr (ow44 hw)) (Or.inr (ow46 hw)) (by decide) (t := .long) (t' := .int) (by decide) (by decide))))⟩
theorem d7_0 : decode prog_15_method_5_code 0 = .ok (.aload_n 0, 1) := by decide +kernel
theorem d7_1 : decode prog_15_method_5_code 1 = .ok (.getfield 45, 3) := by decide +kernel
theorem d7_4 : decode prog_15_method_5_code 4 = .ok (.iload_n 1, 1) := by decide +kernel
theorem d7_5 : decode prog_15_method_5_code 5 = .ok (.bipush 64, 2) := by decide +kernel
theorem d7_7 : decode prog_15_method_5_code 7 = .ok (.isub, 1) := by decide +kernel
theorem d7_8 : decode prog_15_method_5_code 8 = .ok (.invokestatic 30, 3) := by decide +kernel
theorem d7_11 : decode prog_15_method_5_code 11 = .ok (.lreturn, 1) := by decide +kernel
theorem pn_7 : plainName "com/example/routeward/routeward/net/IpPrefix" = true := by first | (simp [plainName, overriddenIn]; done) | decide +kernel
theorem ef_rmL (m : MethodId) (a : Addr) (k : Int32) : entryFrame m #[(.ref a), (.int k)] 2 = mkF m 0 #[.val (.ref a), .val (.int k)] [] := by first | (simp [entryFrame, mkF, argsToLocals, Value.category]; done) | rfl | (rcases ref_cases hrf with rfl | ⟨q, rfl⟩ <;> rfl)
def Q_rmL (Z : State) (a : Addr) (k : Int32) (x : Int64) (h0 : Heap) (n0 : Nat) (v : Option Value) (h : Heap) (L : List Loc) : Prop := v = some (.long (own_mask x (k - (64 : Int32)))) ∧ Fr n0 L ∧ h = h0
set_option maxRecDepth 65536 in
set_option maxHeartbeats 40000000 in
theorem rmL (l : Launch) (Z : State) (a0 : Array Value) (hw : ∀ d ∈ tables_1, d.before a0 Z = true) (ws : List Jvm.Cond) (a : Addr) (k : Int32) (x : Int64) (h0 : Heap) (n0 : Nat) (O0 : Old Z n0 h0) (F_a : Fld Z h0 a "com/example/routeward/routeward/net/IpPrefix" "low" "J" (.long x)) :
    MetFree l oM5 (head1 (Jvm.Cond.code oM5 prog_15_method_5_code 2 (some .long) :: ws) ({ frames := 1, cells := 0, slots := 0, locals := 14 } : Room)) (fun aq_ U => aq_ = #[(.ref a), (.int k)] ∧ Z.Warmed39 U.vm ∧ U.heap = h0) (fun _ _ _ _ _ => True) (fun _ U o U' => ∃ v L, o = .returned v ∧ Q_rmL Z a k x h0 n0 v U'.heap L ∧ FrameEnd U o U' L ({ frames := 1, cells := 0, slots := 0, locals := 14 } : Room).cells ({ frames := 1, cells := 0, slots := 0, locals := 14 } : Room).slots) := by
  refine MetFree.of_bodySF (plainFor_of_name pn_7) hisR ?_
  intro p e s m args below meth c s₁ Bd hml0 hP hK
  obtain ⟨rfl, hZ, hh⟩ := hP
  have hx := Bd.exec
  have hby := Bd.bytes
  have hml : c.maxLocals = 2 := hml0
  have hown : s.vm.findClass "com/example/routeward/routeward/net/IpPrefix" = some m.cls := findClass_of_methodNamed Bd.named
  have hnm := (name_of_methodNamed Bd.named Bd.method).1
  have X0 : Stand p l e ({ frames := 1, cells := 0, slots := 0, locals := 14 } : Room) s m #[(.ref a), (.int k)] below meth c s₁ [] 0 0 := Stand.of_body Bd
  have e0 : s₁.heap = h0 := by rw [← hh, Bd.state]; rfl
  have N0 := Fr.nil n0
  show own_Ends p.tables e below (own_P s (Q_rmL Z a k x h0 n0) ({ frames := 1, cells := 0, slots := 0, locals := 14 } : Room).cells ({ frames := 1, cells := 0, slots := 0, locals := 14 } : Room).slots) _
  refine own_cast (ef_rmL m a k) ?_
  show own_Ends _ _ _ _ (s₁.setTop (mkF m 0 #[.val (.ref a), .val (.int k)] []))
  refine own_to (fun _ kont => XS.aloadN X0.here hx rfl (hb hby d7_0) rfl rfl kont) ?_
  show own_Ends _ _ _ _ (s₁.setTop (mkF m 1 #[.val (.ref a), .val (.int k)] [(.ref a)]))
  obtain ⟨T1, X1, e1, st1⟩ := getF X0 hx hZ hown (host := "") (Or.inl (ow43 hw)) Via.refl e0 F_a (g := (mkF m 1 #[.val (.ref a), .val (.int k)] [(.ref a)])) rfl rfl (hb hby d7_1)
  refine own_to st1 ?_
  show own_Ends _ _ _ _ (T1.setTop (mkF m 4 #[.val (.ref a), .val (.int k)] [(.long x)]))
  refine own_to (fun _ kont => XS.iloadN X1.here hx rfl (hb hby d7_4) rfl kont) ?_
  show own_Ends _ _ _ _ (T1.setTop (mkF m 5 #[.val (.ref a), .val (.int k)] [(.int k), (.long x)]))
  refine own_to (fun _ kont => XS.bipush X1.here hx rfl (hb hby d7_5) kont) ?_
  show own_Ends _ _ _ _ (T1.setTop (mkF m 7 #[.val (.ref a), .val (.int k)] [(.int 64), (.int k), (.long x)]))
  refine own_to (fun _ kont => XS.isub X1.here hx rfl (hb hby d7_7) rfl kont) ?_
  show own_Ends _ _ _ _ (T1.setTop (mkF m 8 #[.val (.ref a), .val (.int k)] [(.int (k - 64)), (.long x)]))
  obtain ⟨_, _, ⟨T2, L2, k2, n2⟩, -, X2, ⟨Lc2, hQ2, l2, y2, z2⟩, st2⟩ := Jvm.LawKit.callS X1 hx (y := oM3) hown (mvT hZ (ow36 hw)) (mvT hZ (ow37 hw)) (mvT hZ (ow2 hw)) (mvT hZ (ow38 hw)) (by decide) (backOf (W := 0) (rmM l Z a0 hw [] x (k - (64 : Int32))  h0 n0 O0 ) hZ (ow38 hw) (ow2 hw) (by decide) (by decide)) (g := (mkF m 8 #[.val (.ref a), .val (.int k)] [(.int (k - (64 : Int32))), (.long x)])) rfl (by rw [hml]; rfl) (argsL := [(.long x), (.int (k - (64 : Int32)))]) (rest := []) (lenOf pd_3 rfl) rfl (by show 2 * 0 + _ ≤ _; exact Nat.le_of_eq rfl) (hb hby d7_8) (fun _ _ => ⟨rfl, e1, (own_le rfl), (own_le rfl)⟩)
  dsimp only [Pt.U, Pt.locs, Pt.cells, Pt.slots] at X2 l2 y2 z2 st2 hQ2
  subst l2 y2 z2
  obtain ⟨hv2, N2q, E2⟩ := hQ2
  subst hv2
  have N2 := Fr.app N0 N2q
  refine own_to st2 ?_
  show own_Ends _ _ _ _ (T2.setTop (mkF m 11 #[.val (.ref a), .val (.int k)] [(.long (own_mask x (k - 64)))]))
  refine own_leave X2 (v := some (.long (own_mask x (k - (64 : Int32))))) (fun h => by rw [Bd.returns] at h; cases h) ?_ (by decide) (by decide) (fun fs hr => retOut X2 hx Bd.returns rfl (Or.inr (Or.inl ⟨rfl, rfl, _, rfl⟩)) (hb hby d7_11) hr)
  show Q_rmL Z a k x h0 n0 _ T2.heap _
  rw [E2]
  exact ⟨rfl, N2, rfl⟩
theorem d8_0 : decode method_3_code 0 = .ok (.iload_n 2, 1) := by decide +kernel
theorem d8_1 : decode method_3_code 1 = .ok (.bipush 64, 2) := by decide +kernel
theorem d8_3 : decode method_3_code 3 = .ok (.isub, 1) := by decide +kernel
theorem d8_4 : decode method_3_code 4 = .ok (.istore_n 3, 1) := by decide +kernel
theorem d8_5 : decode method_3_code 5 = .ok (.iload_n 3, 1) := by decide +kernel
theorem d8_6 : decode method_3_code 6 = .ok (.ifCond .gt 5, 3) := by decide +kernel
theorem d8_9 : decode method_3_code 9 = .ok (.lconst 0, 1) := by decide +kernel
theorem d8_10 : decode method_3_code 10 = .ok (.lreturn, 1) := by decide +kernel
theorem d8_11 : decode method_3_code 11 = .ok (.iload_n 3, 1) := by decide +kernel
theorem d8_12 : decode method_3_code 12 = .ok (.bipush 64, 2) := by decide +kernel
theorem d8_14 : decode method_3_code 14 = .ok (.if_icmp .lt 5, 3) := by decide +kernel
theorem d8_17 : decode method_3_code 17 = .ok (.lload_n 0, 1) := by decide +kernel
theorem d8_18 : decode method_3_code 18 = .ok (.lreturn, 1) := by decide +kernel
theorem d8_19 : decode method_3_code 19 = .ok (.bipush 64, 2) := by decide +kernel
theorem d8_21 : decode method_3_code 21 = .ok (.iload_n 3, 1) := by decide +kernel
theorem d8_22 : decode method_3_code 22 = .ok (.isub, 1) := by decide +kernel
theorem d8_23 : decode method_3_code 23 = .ok (.istore 4, 2) := by decide +kernel
theorem d8_25 : decode method_3_code 25 = .ok (.lload_n 0, 1) := by decide +kernel
theorem d8_26 : decode method_3_code 26 = .ok (.iload 4, 2) := by decide +kernel
theorem d8_28 : decode method_3_code 28 = .ok (.lushr, 1) := by decide +kernel
theorem d8_29 : decode method_3_code 29 = .ok (.iload 4, 2) := by decide +kernel
theorem d8_31 : decode method_3_code 31 = .ok (.lshl, 1) := by decide +kernel
theorem d8_32 : decode method_3_code 32 = .ok (.lreturn, 1) := by decide +kernel
theorem pn_8 : plainName "com/example/routeward/routeward/net/IpPrefixMaskedLowPinLaw" = true := by first | (simp [plainName, overriddenIn]; done) | decide +kernel
theorem ef_rmE (m : MethodId) (x : Int64) (k : Int32) : entryFrame m #[(.long x), (.int k)] 5 = mkF m 0 #[.val (.long x), .second, .val (.int k), .unset, .unset] [] := by first | (simp [entryFrame, mkF, argsToLocals, Value.category]; done) | rfl | (rcases ref_cases hrf with rfl | ⟨q, rfl⟩ <;> rfl)
def Q_rmE (Z : State) (x : Int64) (k : Int32)  (h0 : Heap) (n0 : Nat) (v : Option Value) (h : Heap) (L : List Loc) : Prop := v = some (.long (own_exp x k)) ∧ Fr n0 L ∧ h = h0
set_option maxRecDepth 65536 in
set_option maxHeartbeats 40000000 in
theorem rmE (l : Launch) (Z : State) (a0 : Array Value) (hw : ∀ d ∈ tables_1, d.before a0 Z = true) (ws : List Jvm.Cond) (x : Int64) (k : Int32)  (h0 : Heap) (n0 : Nat) (O0 : Old Z n0 h0) :
    MetFree l oM6 (head1 (Jvm.Cond.code oM6 method_3_code 5 (some .long) :: ws) ({ frames := 0, cells := 0, slots := 0, locals := 0 } : Room)) (fun aq_ U => aq_ = #[(.long x), (.int k)] ∧ Z.Warmed39 U.vm ∧ U.heap = h0) (fun _ _ _ _ _ => True) (fun _ U o U' => ∃ v L, o = .returned v ∧ Q_rmE Z x k h0 n0 v U'.heap L ∧ FrameEnd U o U' L ({ frames := 0, cells := 0, slots := 0, locals := 0 } : Room).cells ({ frames := 0, cells := 0, slots := 0, locals := 0 } : Room).slots) := by
  refine MetFree.of_bodySF (plainFor_of_name pn_8) hisR ?_
  intro p e s m args below meth c s₁ Bd hml0 hP hK
  obtain ⟨rfl, hZ, hh⟩ := hP
  have hx := Bd.exec
  have hby := Bd.bytes
  have hml : c.maxLocals = 5 := hml0
  have hown : s.vm.findClass "com/example/routeward/routeward/net/IpPrefixMaskedLowPinLaw" = some m.cls := findClass_of_methodNamed Bd.named
  have hnm := (name_of_methodNamed Bd.named Bd.method).1
  have X0 : Stand p l e ({ frames := 0, cells := 0, slots := 0, locals := 0 } : Room) s m #[(.long x), (.int k)] below meth c s₁ [] 0 0 := Stand.of_body Bd
  have e0 : s₁.heap = h0 := by rw [← hh, Bd.state]; rfl
  have N0 := Fr.nil n0
  show own_Ends p.tables e below (own_P s (Q_rmE Z x k h0 n0) ({ frames := 0, cells := 0, slots := 0, locals := 0 } : Room).cells ({ frames := 0, cells := 0, slots := 0, locals := 0 } : Room).slots) _
  refine own_cast (ef_rmE m x k) ?_
  show own_Ends _ _ _ _ (s₁.setTop (mkF m 0 #[.val (.long x), .second, .val (.int k), .unset, .unset] []))
  refine own_to (fun _ kont => XS.iloadN X0.here hx rfl (hb hby d8_0) rfl kont) ?_
  show own_Ends _ _ _ _ (s₁.setTop (mkF m 1 #[.val (.long x), .second, .val (.int k), .unset, .unset] [(.int k)]))
  refine own_to (fun _ kont => XS.bipush X0.here hx rfl (hb hby d8_1) kont) ?_
  show own_Ends _ _ _ _ (s₁.setTop (mkF m 3 #[.val (.long x), .second, .val (.int k), .unset, .unset] [(.int 64), (.int k)]))
  refine own_to (fun _ kont => XS.isub X0.here hx rfl (hb hby d8_3) rfl kont) ?_
  show own_Ends _ _ _ _ (s₁.setTop (mkF m 4 #[.val (.long x), .second, .val (.int k), .unset, .unset] [(.int (k - 64))]))
  refine own_to (fun _ kont => XS.istoreN X0.here hx rfl (hb hby d8_4) rfl (l' := #[.val (.long x), .second, .val (.int k), .val (.int (k - (64 : Int32))), .unset]) rfl kont) ?_
  show own_Ends _ _ _ _ (s₁.setTop (mkF m 5 #[.val (.long x), .second, .val (.int k), .val (.int (k - 64)), .unset] []))
  refine own_to (fun _ kont => XS.iloadN X0.here hx rfl (hb hby d8_5) rfl kont) ?_
  show own_Ends _ _ _ _ (s₁.setTop (mkF m 6 #[.val (.long x), .second, .val (.int k), .val (.int (k - 64)), .unset] [(.int (k - 64))]))
  by_cases hc6_1 : (0 : Int32) < (k - (64 : Int32))
  · -- pc 6: (0 : Int32) < (k - (64 : Int32))
    refine own_to (fun _ kont => XS.ifYes X0.here hx rfl (pc0 := 6) (pc' := 11) rfl (hb hby d8_6) rfl ((if0 _ _).trans (tlt hc6_1).2.2.1) (by decide) (by decide) kont) ?_
    show own_Ends _ _ _ _ (s₁.setTop (mkF m 11 #[.val (.long x), .second, .val (.int k), .val (.int (k - 64)), .unset] []))
    refine own_to (fun _ kont => XS.iloadN X0.here hx rfl (hb hby d8_11) rfl kont) ?_
    show own_Ends _ _ _ _ (s₁.setTop (mkF m 12 #[.val (.long x), .second, .val (.int k), .val (.int (k - 64)), .unset] [(.int (k - 64))]))
    refine own_to (fun _ kont => XS.bipush X0.here hx rfl (hb hby d8_12) kont) ?_
    show own_Ends _ _ _ _ (s₁.setTop (mkF m 14 #[.val (.long x), .second, .val (.int k), .val (.int (k - 64)), .unset] [(.int 64), (.int (k - 64))]))
    by_cases hc14_2 : (k - (64 : Int32)) < (64 : Int32)
    · -- pc 14: (k - (64 : Int32)) < (64 : Int32)
      refine own_to (fun _ kont => XS.icmpYes X0.here hx rfl (pc0 := 14) (pc' := 19) rfl (hb hby d8_14) rfl (tlt hc14_2).1 (by decide) (by decide) kont) ?_
      show own_Ends _ _ _ _ (s₁.setTop (mkF m 19 #[.val (.long x), .second, .val (.int k), .val (.int (k - 64)), .unset] []))
      refine own_to (fun _ kont => XS.bipush X0.here hx rfl (hb hby d8_19) kont) ?_
      show own_Ends _ _ _ _ (s₁.setTop (mkF m 21 #[.val (.long x), .second, .val (.int k), .val (.int (k - 64)), .unset] [(.int 64)]))
      refine own_to (fun _ kont => XS.iloadN X0.here hx rfl (hb hby d8_21) rfl kont) ?_
      show own_Ends _ _ _ _ (s₁.setTop (mkF m 22 #[.val (.long x), .second, .val (.int k), .val (.int (k - 64)), .unset] [(.int (k - 64)), (.int 64)]))
      refine own_to (fun _ kont => XS.isub X0.here hx rfl (hb hby d8_22) rfl kont) ?_
      show own_Ends _ _ _ _ (s₁.setTop (mkF m 23 #[.val (.long x), .second, .val (.int k), .val (.int (k - 64)), .unset] [(.int (64 - (k - 64)))]))
      refine own_to (fun _ kont => XS.istore X0.here hx rfl (hb hby d8_23) rfl (l' := #[.val (.long x), .second, .val (.int k), .val (.int (k - (64 : Int32))), .val (.int ((64 : Int32) - (k - (64 : Int32))))]) rfl kont) ?_
      show own_Ends _ _ _ _ (s₁.setTop (mkF m 25 #[.val (.long x), .second, .val (.int k), .val (.int (k - 64)), .val (.int (64 - (k - 64)))] []))
      refine own_to (fun _ kont => XS.lloadN X0.here hx rfl (hb hby d8_25) rfl kont) ?_
      show own_Ends _ _ _ _ (s₁.setTop (mkF m 26 #[.val (.long x), .second, .val (.int k), .val (.int (k - 64)), .val (.int (64 - (k - 64)))] [(.long x)]))
      refine own_to (fun _ kont => XS.iload X0.here hx rfl (hb hby d8_26) rfl kont) ?_
      show own_Ends _ _ _ _ (s₁.setTop (mkF m 28 #[.val (.long x), .second, .val (.int k), .val (.int (k - 64)), .val (.int (64 - (k - 64)))] [(.int (64 - (k - 64))), (.long x)]))
      refine own_to (fun _ kont => XS.lushr X0.here hx rfl (hb hby d8_28) rfl kont) ?_
      show own_Ends _ _ _ _ (s₁.setTop (mkF m 29 #[.val (.long x), .second, .val (.int k), .val (.int (k - 64)), .val (.int (64 - (k - 64)))] [(.long ((x.toUInt64 >>> ((64 - (k - 64)) &&& 0x3f).toInt64.toUInt64).toInt64))]))
      refine own_to (fun _ kont => XS.iload X0.here hx rfl (hb hby d8_29) rfl kont) ?_
      show own_Ends _ _ _ _ (s₁.setTop (mkF m 31 #[.val (.long x), .second, .val (.int k), .val (.int (k - 64)), .val (.int (64 - (k - 64)))] [(.int (64 - (k - 64))), (.long ((x.toUInt64 >>> ((64 - (k - 64)) &&& 0x3f).toInt64.toUInt64).toInt64))]))
      refine own_to (fun _ kont => XS.lshl X0.here hx rfl (hb hby d8_31) rfl kont) ?_
      show own_Ends _ _ _ _ (s₁.setTop (mkF m 32 #[.val (.long x), .second, .val (.int k), .val (.int (k - 64)), .val (.int (64 - (k - 64)))] [(.long (((x.toUInt64 >>> ((64 - (k - 64)) &&& 0x3f).toInt64.toUInt64).toInt64) <<< ((64 - (k - 64)) &&& 0x3f).toInt64))]))
      refine own_leave X0 (v := some (.long (((x.toUInt64 >>> (((64 : Int32) - (k - (64 : Int32))) &&& 0x3f).toInt64.toUInt64).toInt64) <<< (((64 : Int32) - (k - (64 : Int32))) &&& 0x3f).toInt64))) (fun h => by rw [Bd.returns] at h; cases h) ?_ (by decide) (by decide) (fun fs hr => retOut X0 hx Bd.returns rfl (Or.inr (Or.inl ⟨rfl, rfl, _, rfl⟩)) (hb hby d8_32) hr)
      show Q_rmE Z x k h0 n0 _ s₁.heap _
      rw [e0]
      exact ⟨by simp [own_exp, *], N0, rfl⟩
    · -- pc 14: not (k - (64 : Int32)) < (64 : Int32)
      refine own_to (fun _ kont => XS.icmpNo X0.here hx rfl (hb hby d8_14) rfl (flt hc14_2).1 kont) ?_
      show own_Ends _ _ _ _ (s₁.setTop (mkF m 17 #[.val (.long x), .second, .val (.int k), .val (.int (k - 64)), .unset] []))
      refine own_to (fun _ kont => XS.lloadN X0.here hx rfl (hb hby d8_17) rfl kont) ?_
      show own_Ends _ _ _ _ (s₁.setTop (mkF m 18 #[.val (.long x), .second, .val (.int k), .val (.int (k - 64)), .unset] [(.long x)]))
      refine own_leave X0 (v := some (.long x)) (fun h => by rw [Bd.returns] at h; cases h) ?_ (by decide) (by decide) (fun fs hr => retOut X0 hx Bd.returns rfl (Or.inr (Or.inl ⟨rfl, rfl, _, rfl⟩)) (hb hby d8_18) hr)
      show Q_rmE Z x k h0 n0 _ s₁.heap _
      rw [e0]
      exact ⟨by simp [own_exp, *], N0, rfl⟩
  · -- pc 6: not (0 : Int32) < (k - (64 : Int32))
    refine own_to (fun _ kont => XS.ifNo X0.here hx rfl (hb hby d8_6) rfl ((if0 _ _).trans (flt hc6_1).2.2.1) kont) ?_
    show own_Ends _ _ _ _ (s₁.setTop (mkF m 9 #[.val (.long x), .second, .val (.int k), .val (.int (k - 64)), .unset] []))
    refine own_to (fun _ kont => XS.lconst X0.here hx rfl (hb hby d8_9) kont) ?_
    show own_Ends _ _ _ _ (s₁.setTop (mkF m 10 #[.val (.long x), .second, .val (.int k), .val (.int (k - 64)), .unset] [(.long (0 : Int64))]))
    refine own_leave X0 (v := some (.long (0 : Int64))) (fun h => by rw [Bd.returns] at h; cases h) ?_ (by decide) (by decide) (fun fs hr => retOut X0 hx Bd.returns rfl (Or.inr (Or.inl ⟨rfl, rfl, _, rfl⟩)) (hb hby d8_10) hr)
    show Q_rmE Z x k h0 n0 _ s₁.heap _
    rw [e0]
    exact ⟨by simp [own_exp, *], N0, rfl⟩
theorem pn_0 : plainName "com/example/routeward/routeward/net/IpPrefixMaskedLowPinLaw" = true := by first | (simp [plainName, overriddenIn]; done) | decide +kernel
theorem pd_4 : parseMethodDescriptor "(Lcom/example/routeward/routeward/net/IpFamily;JJI)V" = some ⟨[(.object "com/example/routeward/routeward/net/IpFamily"), .long, .long, .int], none⟩ := by decide +kernel
theorem pd_5 : parseMethodDescriptor "(I)J" = some ⟨[.int], some .long⟩ := by decide +kernel
theorem ef_rm0 (m : MethodId) (z1 : Int64) (z2 : Int64) (z3 : Int32) : entryFrame m #[(.long z1), (.long z2), (.int z3)] maxLocals = mkF m 0 #[.val (.long z1), .second, .val (.long z2), .second, .val (.int z3), .unset, .unset, .unset, .unset] [] := by first | (simp [entryFrame, mkF, argsToLocals, Value.category, maxLocals]; done) | rfl | (rcases ref_cases hrf with rfl | ⟨q, rfl⟩ <;> rfl)
def Q_rm0 (Z : State) (z1 : Int64) (z2 : Int64) (z3 : Int32) (v6 : Addr) (h0 : Heap) (n0 : Nat) (v : Option Value) (h : Heap) (L : List Loc) : Prop := v = some (.int 1) ∧ Fr n0 L
set_option maxRecDepth 65536 in
set_option maxHeartbeats 40000000 in
theorem rm0 (l : Launch) (Z : State) (a0 : Array Value) (hw : ∀ d ∈ tables_1, d.before a0 Z = true) (ws : List Jvm.Cond) (z1 : Int64) (z2 : Int64) (z3 : Int32) (v6 : Addr) (h0 : Heap) (n0 : Nat) (O0 : Old Z n0 h0) (S_v6 : Sta Z Z.heap "com/example/routeward/routeward/net/IpFamily" "IPV6" "Lcom/example/routeward/routeward/net/IpFamily;" (.ref v6)) (E_v6 : Exa Z Z.heap v6 "com/example/routeward/routeward/net/IpFamily") (F_v6 : Fld Z Z.heap v6 "com/example/routeward/routeward/net/IpFamily" "bits" "I" (.int (128 : Int32))) :
    MetFree l x (head1 (Jvm.Cond.code x code maxLocals ret :: ws) room_1) (fun aq_ U => aq_ = #[(.long z1), (.long z2), (.int z3)] ∧ Z.Warmed39 U.vm ∧ U.heap = h0) (fun _ _ _ _ _ => True) (fun _ U o U' => ∃ v L, o = .returned v ∧ Q_rm0 Z z1 z2 z3 v6 h0 n0 v U'.heap L ∧ ReturnedEndW U o U' L 16 1152) := by
  refine MetFree.of_bodySF (plainFor_of_name pn_0) hisR ?_
  intro p e s m args below meth c s₁ Bd hml0 hP hK
  obtain ⟨rfl, hZ, hh⟩ := hP
  have hx := Bd.exec
  have hby := Bd.bytes
  have hml : c.maxLocals = 9 := hml0
  have hown : s.vm.findClass "com/example/routeward/routeward/net/IpPrefixMaskedLowPinLaw" = some m.cls := findClass_of_methodNamed Bd.named
  have hnm := (name_of_methodNamed Bd.named Bd.method).1
  have X0 : Stand p l e room_1 (s.setVm s.vm) m #[(.long z1), (.long z2), (.int z3)] below meth c s₁ [] 0 0 := Stand.of_body Bd
  have e0 : s₁.heap = h0 := by rw [← hh, Bd.state]; rfl
  have N0 := Fr.nil n0
  have hS0 : s.Since s.vm 0 := (State.WarmedH.refl s).since 0
  show own_Ends p.tables e below (own_PW s (Q_rm0 Z z1 z2 z3 v6 h0 n0) 16 1152) _
  refine own_cast (ef_rm0 m z1 z2 z3) ?_
  show own_Ends _ _ _ _ (s₁.setTop (mkF m 0 #[.val (.long z1), .second, .val (.long z2), .second, .val (.int z3), .unset, .unset, .unset, .unset] []))
  refine own_to (fun _ kont => XS.iload X0.here hx rfl (hb hby at_0) rfl kont) ?_
  show own_Ends _ _ _ _ (s₁.setTop (mkF m 2 #[.val (.long z1), .second, .val (.long z2), .second, .val (.int z3), .unset, .unset, .unset, .unset] [(.int z3)]))
  refine own_to (fun _ kont => XS.sipush X0.here hx rfl (hb hby at_2) kont) ?_
  show own_Ends _ _ _ _ (s₁.setTop (mkF m 5 #[.val (.long z1), .second, .val (.long z2), .second, .val (.int z3), .unset, .unset, .unset, .unset] [(.int 1024), (.int z3)]))
  refine own_to (fun _ kont => iremM X0 hx rfl (hb hby at_5) rfl (by decide) kont) ?_
  show own_Ends _ _ _ _ (s₁.setTop (mkF m 6 #[.val (.long z1), .second, .val (.long z2), .second, .val (.int z3), .unset, .unset, .unset, .unset] [(.int (z3 % 1024))]))
  refine own_to (fun _ kont => XS.istore X0.here hx rfl (hb hby at_6) rfl (l' := #[.val (.long z1), .second, .val (.long z2), .second, .val (.int z3), .val (.int (z3 % (1024 : Int32))), .unset, .unset, .unset]) rfl kont) ?_
  show own_Ends _ _ _ _ (s₁.setTop (mkF m 8 #[.val (.long z1), .second, .val (.long z2), .second, .val (.int z3), .val (.int (z3 % 1024)), .unset, .unset, .unset] []))
  obtain ⟨T1, h1, X1, e1, E1, A1, D1, U1, st1⟩ := newO X0 hx hZ hown (ow0 hw) (ow1 hw) (ow2 hw) e0 (g := (mkF m 8 #[.val (.long z1), .second, .val (.long z2), .second, .val (.int z3), .val (.int (z3 % (1024 : Int32))), .unset, .unset, .unset] [])) rfl (hb hby at_8) (by decide) (by decide)
  obtain ⟨b1, g1⟩ : ∃ z, z = h0.size := ⟨_, rfl⟩
  rw [← g1] at A1 D1 st1
  have g_b1 : n0 ≤ b1 := Nat.le_trans (own_old_le O0) (Nat.le_of_eq g1.symm)
  refine own_to st1 ?_
  have O1 := O0.ext E1
  have Fd1_family : Fld Z h1 b1 "com/example/routeward/routeward/net/IpPrefix" "family" "Lcom/example/routeward/routeward/net/IpFamily;" .null := D1 (Or.inr (ow40 hw)) (ty := (.object "com/example/routeward/routeward/net/IpFamily")) (by decide)
  have Fd1_high : Fld Z h1 b1 "com/example/routeward/routeward/net/IpPrefix" "high" "J" (.long (0 : Int64)) := D1 (Or.inr (ow42 hw)) (ty := .long) (by decide)
  have Fd1_low : Fld Z h1 b1 "com/example/routeward/routeward/net/IpPrefix" "low" "J" (.long (0 : Int64)) := D1 (Or.inr (ow44 hw)) (ty := .long) (by decide)
  have Fd1_length : Fld Z h1 b1 "com/example/routeward/routeward/net/IpPrefix" "length" "I" (.int (0 : Int32)) := D1 (Or.inr (ow46 hw)) (ty := .int) (by decide)
  show own_Ends _ _ _ _ (T1.setTop (mkF m 11 #[.val (.long z1), .second, .val (.long z2), .second, .val (.int z3), .val (.int (z3 % 1024)), .unset, .unset, .unset] [(.ref b1)]))
  refine own_to (fun _ kont => XS.dup X1.here hx rfl (hb hby at_11) rfl rfl kont) ?_
  show own_Ends _ _ _ _ (T1.setTop (mkF m 12 #[.val (.long z1), .second, .val (.long z2), .second, .val (.int z3), .val (.int (z3 % 1024)), .unset, .unset, .unset] [(.ref b1), (.ref b1)]))
  obtain ⟨T2, X2, e2, st2⟩ := getS2 X1 hx hZ hown (host := "") (Or.inl (ow3 hw)) Via.refl e1 (S_v6.ext O1.2) (g := (mkF m 12 #[.val (.long z1), .second, .val (.long z2), .second, .val (.int z3), .val (.int (z3 % (1024 : Int32))), .unset, .unset, .unset] [(.ref b1), (.ref b1)])) rfl (hb hby at_12)
  refine own_to st2 ?_
  show own_Ends _ _ _ _ (T2.setTop (mkF m 15 #[.val (.long z1), .second, .val (.long z2), .second, .val (.int z3), .val (.int (z3 % 1024)), .unset, .unset, .unset] [(.ref v6), (.ref b1), (.ref b1)]))
  refine own_to (fun _ kont => XS.lloadN X2.here hx rfl (hb hby at_15) rfl kont) ?_
  show own_Ends _ _ _ _ (T2.setTop (mkF m 16 #[.val (.long z1), .second, .val (.long z2), .second, .val (.int z3), .val (.int (z3 % 1024)), .unset, .unset, .unset] [(.long z1), (.ref v6), (.ref b1), (.ref b1)]))
  refine own_to (fun _ kont => XS.lloadN X2.here hx rfl (hb hby at_16) rfl kont) ?_
  show own_Ends _ _ _ _ (T2.setTop (mkF m 17 #[.val (.long z1), .second, .val (.long z2), .second, .val (.int z3), .val (.int (z3 % 1024)), .unset, .unset, .unset] [(.long z2), (.long z1), (.ref v6), (.ref b1), (.ref b1)]))
  refine own_to (fun _ kont => XS.sipush X2.here hx rfl (hb hby at_17) kont) ?_
  show own_Ends _ _ _ _ (T2.setTop (mkF m 20 #[.val (.long z1), .second, .val (.long z2), .second, .val (.int z3), .val (.int (z3 % 1024)), .unset, .unset, .unset] [(.int 128), (.long z2), (.long z1), (.ref v6), (.ref b1), (.ref b1)]))
  obtain ⟨_, _, ⟨T3, L3, k3, n3⟩, -, X3, hSq3, gq3, ⟨Lc3, hQ3, l3, y3, z3⟩, st3⟩ := X2.specialBackS hx (y := oM4) rfl hown (mvT hZ (ow6 hw)) (mvT hZ (ow7 hw)) (mvT hZ (ow8 hw)) (by decide) (backOfS (W := 1) (rmI l Z a0 hw [] b1 v6 z1 z2  h1 n0 O1 g_b1 A1 Fd1_family Fd1_high Fd1_low Fd1_length E_v6 F_v6) hZ (ow8 hw) (ow2 hw) (by decide) (by decide)) (g := (mkF m 20 #[.val (.long z1), .second, .val (.long z2), .second, .val (.int z3), .val (.int (z3 % (1024 : Int32))), .unset, .unset, .unset] [(.int (128 : Int32)), (.long z2), (.long z1), (.ref v6), (.ref b1), (.ref b1)])) rfl (by rw [hml]; rfl) (Steps.refl _) (a := b1) (argsL := [(.ref v6), (.long z1), (.long z2), (.int (128 : Int32))]) (rest := [(.ref b1)]) (lenOf pd_4 rfl) rfl (by show 2 * 0 + _ ≤ _; exact Nat.le_of_eq rfl) (hb hby at_20) (fun _ _ => ⟨rfl, e2, (own_le rfl), (own_le rfl)⟩)
  dsimp only [Pt.U, Pt.locs, Pt.cells, Pt.slots] at X3 l3 y3 z3 st3 hQ3 hSq3 gq3
  subst l3 y3 z3
  obtain ⟨X3, hS3, hZ, hown⟩ := rebS hS0 (Nat.le_trans (Nat.zero_le _) E1.1) X3 hSq3 (by rw [e2] at gq3; exact gq3) hZ hown
  obtain ⟨rfl, N3q, Oq3, Kq3, Ex3, Fx3⟩ := hQ3
  have N3 := Fr.app N0 N3q
  refine own_tr st3 ?_
  show own_Ends _ _ _ _ (T3.setTop (mkF m 23 #[.val (.long z1), .second, .val (.long z2), .second, .val (.int z3), .val (.int (z3 % 1024)), .unset, .unset, .unset] [(.ref b1)]))
  refine own_to (fun _ kont => XS.astore X3.here hx rfl (hb hby at_23) rfl rfl (l' := #[.val (.long z1), .second, .val (.long z2), .second, .val (.int z3), .val (.int (z3 % (1024 : Int32))), .val (.ref b1), .unset, .unset]) rfl kont) ?_
  show own_Ends _ _ _ _ (T3.setTop (mkF m 25 #[.val (.long z1), .second, .val (.long z2), .second, .val (.int z3), .val (.int (z3 % 1024)), .val (.ref b1), .unset, .unset] []))
  refine own_to (fun _ kont => XS.aload X3.here hx rfl (hb hby at_25) rfl rfl kont) ?_
  show own_Ends _ _ _ _ (T3.setTop (mkF m 27 #[.val (.long z1), .second, .val (.long z2), .second, .val (.int z3), .val (.int (z3 % 1024)), .val (.ref b1), .unset, .unset] [(.ref b1)]))
  refine own_to (fun _ kont => XS.iload X3.here hx rfl (hb hby at_27) rfl kont) ?_
  show own_Ends _ _ _ _ (T3.setTop (mkF m 29 #[.val (.long z1), .second, .val (.long z2), .second, .val (.int z3), .val (.int (z3 % 1024)), .val (.ref b1), .unset, .unset] [(.int (z3 % 1024)), (.ref b1)]))
  obtain ⟨cq4, kq4, q4a, q4b, q4c⟩ := isOf hZ rfl Ex3
  obtain ⟨_, _, ⟨T4, L4, k4, n4⟩, -, X4, ⟨Lc4, hQ4, l4, y4, z4⟩, st4⟩ := X3.virtualBack hx (y := oM5) (z := oM5) hown (mvT hZ (ow47 hw)) (mvT hZ (ow48 hw)) (notFace_of_selects (args := #[]) (mvT hZ (ow50 hw))) (mvT hZ (ow50 hw)) (mvT hZ (ow49 hw)) (by decide) (backOf (W := 0) (rmL l Z a0 hw [] b1 (z3 % (1024 : Int32)) z2 T3.heap n0 Oq3 Fx3) hZ (ow51 hw) (ow2 hw) (by decide) (by decide)) q4a q4c (g := (mkF m 29 #[.val (.long z1), .second, .val (.long z2), .second, .val (.int z3), .val (.int (z3 % (1024 : Int32))), .val (.ref b1), .unset, .unset] [(.int (z3 % (1024 : Int32))), (.ref b1)])) rfl (by rw [hml]; rfl) (Steps.refl _) (argsL := [(.int (z3 % (1024 : Int32)))]) (rest := []) (lenOf pd_5 rfl) rfl (by show 2 * 0 + _ ≤ _; exact Nat.le_of_eq rfl) (hb hby at_29) (fun _ _ => ⟨rfl, rfl, (own_le rfl), (own_le rfl)⟩)
  dsimp only [Pt.U, Pt.locs, Pt.cells, Pt.slots] at X4 l4 y4 z4 st4 hQ4
  subst l4 y4 z4
  obtain ⟨rfl, N4q, E4⟩ := hQ4
  have N4 := Fr.app N3 N4q
  refine own_tr st4 ?_
  show own_Ends _ _ _ _ (T4.setTop (mkF m 32 #[.val (.long z1), .second, .val (.long z2), .second, .val (.int z3), .val (.int (z3 % 1024)), .val (.ref b1), .unset, .unset] [(.long (own_mask z2 ((z3 % 1024) - 64)))]))
  refine own_to (fun _ kont => XS.lstore X4.here hx rfl (hb hby at_32) rfl (l' := #[.val (.long z1), .second, .val (.long z2), .second, .val (.int z3), .val (.int (z3 % (1024 : Int32))), .val (.ref b1), .val (.long (own_mask z2 ((z3 % (1024 : Int32)) - (64 : Int32)))), .second]) rfl kont) ?_
  show own_Ends _ _ _ _ (T4.setTop (mkF m 34 #[.val (.long z1), .second, .val (.long z2), .second, .val (.int z3), .val (.int (z3 % 1024)), .val (.ref b1), .val (.long (own_mask z2 ((z3 % 1024) - 64))), .second] []))
  refine own_to (fun _ kont => XS.lload X4.here hx rfl (hb hby at_34) rfl kont) ?_
  show own_Ends _ _ _ _ (T4.setTop (mkF m 36 #[.val (.long z1), .second, .val (.long z2), .second, .val (.int z3), .val (.int (z3 % 1024)), .val (.ref b1), .val (.long (own_mask z2 ((z3 % 1024) - 64))), .second] [(.long (own_mask z2 ((z3 % 1024) - 64)))]))
  refine own_to (fun _ kont => XS.lloadN X4.here hx rfl (hb hby at_36) rfl kont) ?_
  show own_Ends _ _ _ _ (T4.setTop (mkF m 37 #[.val (.long z1), .second, .val (.long z2), .second, .val (.int z3), .val (.int (z3 % 1024)), .val (.ref b1), .val (.long (own_mask z2 ((z3 % 1024) - 64))), .second] [(.long z2), (.long (own_mask z2 ((z3 % 1024) - 64)))]))
  refine own_to (fun _ kont => XS.iload X4.here hx rfl (hb hby at_37) rfl kont) ?_
  show own_Ends _ _ _ _ (T4.setTop (mkF m 39 #[.val (.long z1), .second, .val (.long z2), .second, .val (.int z3), .val (.int (z3 % 1024)), .val (.ref b1), .val (.long (own_mask z2 ((z3 % 1024) - 64))), .second] [(.int (z3 % 1024)), (.long z2), (.long (own_mask z2 ((z3 % 1024) - 64)))]))
  obtain ⟨_, _, ⟨T5, L5, k5, n5⟩, -, X5, ⟨Lc5, hQ5, l5, y5, z5⟩, st5⟩ := Jvm.LawKit.callS X4 hx (y := oM6) hown (mvT hZ (ow52 hw)) (mvT hZ (ow53 hw)) (mvT hZ (ow54 hw)) (mvT hZ (ow55 hw)) (by decide) (backOf (W := 2) (rmE l Z a0 hw [] z2 (z3 % (1024 : Int32))  T3.heap n0 Oq3 ) hZ (ow55 hw) (ow54 hw) (by decide) (by decide)) (g := (mkF m 39 #[.val (.long z1), .second, .val (.long z2), .second, .val (.int z3), .val (.int (z3 % (1024 : Int32))), .val (.ref b1), .val (.long (own_mask z2 ((z3 % (1024 : Int32)) - (64 : Int32)))), .second] [(.int (z3 % (1024 : Int32))), (.long z2), (.long (own_mask z2 ((z3 % (1024 : Int32)) - (64 : Int32))))])) rfl (by rw [hml]; rfl) (argsL := [(.long z2), (.int (z3 % (1024 : Int32)))]) (rest := [(.long (own_mask z2 ((z3 % (1024 : Int32)) - (64 : Int32))))]) (lenOf pd_3 rfl) rfl (by show 2 * 0 + _ ≤ _; exact Nat.le_of_eq rfl) (hb hby at_39) (fun _ _ => ⟨rfl, E4, (own_le rfl), (own_le rfl)⟩)
  dsimp only [Pt.U, Pt.locs, Pt.cells, Pt.slots] at X5 l5 y5 z5 st5 hQ5
  subst l5 y5 z5
  obtain ⟨rfl, N5q, E5⟩ := hQ5
  have N5 := Fr.app N4 N5q
  refine own_to st5 ?_
  show own_Ends _ _ _ _ (T5.setTop (mkF m 42 #[.val (.long z1), .second, .val (.long z2), .second, .val (.int z3), .val (.int (z3 % 1024)), .val (.ref b1), .val (.long (own_mask z2 ((z3 % 1024) - 64))), .second] [(.long (own_exp z2 (z3 % 1024))), (.long (own_mask z2 ((z3 % 1024) - 64)))]))
  refine own_to (fun _ kont => XS.lcmp X5.here hx rfl (hb hby at_42) rfl kont) ?_
  show own_Ends _ _ _ _ (T5.setTop (mkF m 43 #[.val (.long z1), .second, .val (.long z2), .second, .val (.int z3), .val (.int (z3 % 1024)), .val (.ref b1), .val (.long (own_mask z2 ((z3 % 1024) - 64))), .second] [(.int (lcmpW (own_mask z2 ((z3 % 1024) - 64)) (own_exp z2 (z3 % 1024))))]))
  refine own_to (fun _ kont => XS.ifNo X5.here hx rfl (hb hby at_43) rfl ((if0 _ _).trans (teq ((lw_eq _ _).mpr (own_same _ _))).2) kont) ?_
  show own_Ends _ _ _ _ (T5.setTop (mkF m 46 #[.val (.long z1), .second, .val (.long z2), .second, .val (.int z3), .val (.int (z3 % 1024)), .val (.ref b1), .val (.long (own_mask z2 ((z3 % 1024) - 64))), .second] []))
  refine own_to (fun _ kont => XS.iconst X5.here hx rfl (hb hby at_46) kont) ?_
  show own_Ends _ _ _ _ (T5.setTop (mkF m 47 #[.val (.long z1), .second, .val (.long z2), .second, .val (.int z3), .val (.int (z3 % 1024)), .val (.ref b1), .val (.long (own_mask z2 ((z3 % 1024) - 64))), .second] [(.int 1)]))
  refine own_to (fun _ kont => XS.goto X5.here hx rfl (pc0 := 47) (pc' := 51) rfl (hb hby at_47) (by decide) (by decide) kont) ?_
  show own_Ends _ _ _ _ (T5.setTop (mkF m 51 #[.val (.long z1), .second, .val (.long z2), .second, .val (.int z3), .val (.int (z3 % 1024)), .val (.ref b1), .val (.long (own_mask z2 ((z3 % 1024) - 64))), .second] [(.int 1)]))
  refine own_leaveW X5 hS3 (by rw [E5]; exact (Nat.le_refl _)) (v := some (.int (1 : Int32))) (fun h => by rw [Bd.returns] at h; cases h) ?_ (by decide) (by decide) (fun fs hr => retN X5 hx (t := .boolean) Bd.returns (by simp) (hb hby at_51) hr)
  show Q_rm0 Z z1 z2 z3 v6 h0 n0 _ T5.heap _
  rw [E5]
  exact ⟨rfl, N5⟩
set_option maxRecDepth 65536 in
set_option maxHeartbeats 40000000 in
theorem comes_1 {Post : Tables → Env → Array Value → State → Outcome → State → Prop} (hpost : ∀ tb e args s v u, (limb_1_1.after args s (.returned v) u = true ∧ limb_1_2.after args s (.returned v) u = true ∧ True) → ReturnedEndW s (.returned v) u (Jvm.fieldLocs frame_1_writes args s ++ Jvm.arrayLocs frame_1_arrays args s ++ Jvm.staticLocs frame_1_statics s) 16 1152 → Post tb e args s (.returned v) u) :
    ArmFor flags0 classFile x code maxLocals ret World_1 tables_1 room_1 Calls_1 rest_1 Pre_1 Post := by
  intro l hfl _ _ p e ha hc hk s m args below hf hA hF happ hP
  obtain ⟨hcalls, hrest, hpre⟩ := hP
  obtain ⟨-, -, -, hnamed, -, -, -, hat⟩ := (Spec.applies_iff hf).mp happ
  obtain ⟨hg, hn⟩ := and_e (Cond.before_iff.mp (show (Jvm.Cond.and given_1 narrow_1).before args s = true from hpre))
  obtain ⟨gc0, hg0⟩ := and_e hg
  obtain ⟨gc1, hg1⟩ := and_e hg0
  obtain ⟨gc2, hg2⟩ := and_e hg1
  have gc3 := hg2
  obtain ⟨nc0, hn0⟩ := and_e hn
  have nc1 := hn0
  obtain ⟨w0, w1, w2, rfl⟩ : ∃ w0 w1 w2 : Value, args = #[w0, w1, w2] := by
    have hs : args.size = 3 := by simpa [Cond.value, given_1] using gc0
    obtain ⟨L⟩ := args
    match L, hs with
    | [w0, w1, w2], _ => exact ⟨w0, w1, w2, rfl⟩
  have hw := fun d (hd : d ∈ tables_1) => atoms_spec (ws := Jvm.Cond.code x code maxLocals ret :: tables_1) hat d (List.mem_cons_of_mem _ hd)
  have hfit : Fit s := fun {y c} hc i hi => by
    obtain ⟨ha, rfl⟩ := Array.getElem?_eq_some_iff.mp hc
    have q := List.all_eq_true.mp ((Array.all_eq_true_iff_forall_mem.mp hF) _ (Array.getElem_mem ha)) i (List.mem_range.mpr hi)
    simpa [Array.getElem?_eq_getElem hi] using q
  obtain ⟨i0, ei0⟩ := isL_v gc1
  obtain rfl : w0 = (.long i0) := Option.some.inj ei0
  obtain ⟨i1, ei1⟩ := isL_v gc2
  obtain rfl : w1 = (.long i1) := Option.some.inj ei1
  obtain ⟨i2, ei2⟩ := is_v gc3
  obtain rfl : w2 = (.int i2) := Option.some.inj ei2
  obtain ⟨v6, ev_v6⟩ := exa_v nc0
  have E_v6 : Exa s s.heap v6 "com/example/routeward/routeward/net/IpFamily" := Exa.start ev_v6 nc0
  have S_v6 : Sta s s.heap "com/example/routeward/routeward/net/IpFamily" "IPV6" "Lcom/example/routeward/routeward/net/IpFamily;" (.ref v6) := Sta.start ev_v6 (Or.inr ⟨(ow4 hw), (ow5 hw)⟩)
  have F_v6_bits : Fld s s.heap v6 "com/example/routeward/routeward/net/IpFamily" "bits" "I" (.int (128 : Int32)) := Fld.start ((fld_at ev_v6).symm.trans (own_eqI nc1))
  obtain ⟨n, o, h1, h2, h3, _, L, rfl, ⟨rfl, N⟩, hq⟩ := rm0 l s _ hw tables_1 i0 i1 i2 v6 s.heap s.heap.size (Old.start s) S_v6 E_v6 F_v6_bits p e ha hc hk s m _ below hf ((Spec.applies_iff_loose hf).mp happ).1 ⟨rfl, State.Warmed39.refl s, rfl⟩ trivial
  refine ⟨n, _, h1, h2, h3, hpost _ _ _ _ _ _ ⟨Cond.after_iff.mpr rfl, Cond.after_iff.mpr (eq_i res_at (Term.int_eval (1)) rfl), trivial⟩ ⟨hq.1, hq.2.1, hq.2.2.1, (hq.2.2.2.sift fun y hy => Or.inr (N y hy)).mono (by decide) (by decide)⟩⟩
theorem main_1_1 : Claimed_1_1 := comes_1 fun _ _ _ _ _ _ h hF => ⟨h.1, hF⟩
theorem main_1_2 : Claimed_1_2 := comes_1 fun _ _ _ _ _ _ h hF => ⟨h.2.1, hF⟩
end Jvm.Pilot.@@N@@
namespace Jvm.Pilot.@@N@@
open Jvm Jvm.ClassFile Sem Op Lib Jvm.Free Jvm.Stand Jvm.Pilot.@@N@@.Jvm.D
/-! MADE BY PROGRAM (witnessworld.py) out of the Statement's table words and the real class files: 18 classes; the members and pool entries that the words name. The judged class is class 1, her method 1. -/
namespace start1
open Jvm.ClassFile
def u (s : String) : CpInfo := .utf8 (stringToUtf16 s)
/-- a pool by its gaps: so many unusable entries, then the entry; so many at the end -/
def gap : Nat → List CpInfo → List CpInfo
  | 0, r => r
  | n + 1, r => .unusable :: gap n r
def poolList (es : List (Nat × CpInfo)) (last : Nat) : List CpInfo := es.foldr (fun e r => gap e.1 (e.2 :: r)) (gap last [])
def pool (es : List (Nat × CpInfo)) (last : Nat) : Array CpInfo := ⟨poolList es last⟩
def fileOf (pool : Array CpInfo) (this : Nat) (attrs : Array Attribute := #[]) (ms : Array MethodInfo := #[]) (fl : Nat := 33) (sup : Nat := 0) (ifs : Array Nat := #[]) (fds : Array FieldInfo := #[]) : ClassFile where
  minorVersion := 0
  majorVersion := 65
  constantPool := pool
  accessFlags := fl
  thisClass := this
  superClass := sup
  interfaces := ifs
  fields := fds
  methods := ms
  attributes := attrs
def plain (name : String) (sup : Option ClassId) : Class where
  name := name
  kind := .ordinary
  loader := none
  accessFlags := 33
  super := sup
  interfaces := #[]
  cf := none
  fields := #[]
  methods := #[]
  instanceTypes := #[]
  staticTypes := #[]
  resolved := #[]
  callSites := []
  init := .initialized
  statics := none
  mirror := none

def pool0 : Array CpInfo := pool [(5, u "<init>"), (0, u "()V"), (1, .class_ 10), (1, u "java/lang/Object")] 113

def k0c0 : Code := { maxStack := 0, maxLocals := 1, code := object_method_1_code, exceptionTable := #[], attributes := #[] }
def k0m0 : Method := { name := "<init>", desc := "()V", sig := { parameters := [], returnType := none }, accessFlags := 1, code := some k0c0 }
/-- java/lang/Object -/
def k0 : Class := { plain "java/lang/Object" none with
  accessFlags := 33
  interfaces := #[]
  cf := some (fileOf pool0 8 #[] #[{ accessFlags := 1, nameIndex := 5, descriptorIndex := 6, attributes := #[] }] 33 0 #[] #[])
  fields := #[]
  methods := #[k0m0]
  instanceTypes := #[]
  staticTypes := #[]
  resolved := Array.replicate 124 none
  statics := none }

def pool1 : Array CpInfo := pool [(2, .class_ 4), (1, u "java/lang/Object"), (0, u "<init>"), (0, u "()V"), (0, .class_ 8), (0, u "com/example/routeward/routeward/net/IpPrefix"), (0, .fieldref 10 11), (0, .class_ 12), (0, .nameAndType 13 14), (0, u "com/example/routeward/routeward/net/IpFamily"), (0, u "IPV6"), (0, u "Lcom/example/routeward/routeward/net/IpFamily;"), (0, .methodref 7 16), (0, .nameAndType 5 17), (0, u "(Lcom/example/routeward/routeward/net/IpFamily;JJI)V"), (0, .methodref 7 19), (0, .nameAndType 20 21), (0, u "maskedLow"), (0, u "(I)J"), (0, .methodref 23 24), (0, .class_ 25), (0, .nameAndType 26 27), (0, u "com/example/routeward/routeward/net/IpPrefixMaskedLowPinLaw"), (0, u "expected"), (0, u "(JI)J"), (2, u "law"), (0, u "(JJI)Z")] 3

def k1m0 : Method := { name := "<init>", desc := "()V", sig := { parameters := [], returnType := none }, accessFlags := 2, code := none }
def k1c1 : Code := { maxStack := 8, maxLocals := 9, code := code, exceptionTable := #[], attributes := #[] }
def k1m1 : Method := { name := "law", desc := "(JJI)Z", sig := { parameters := [.long, .long, .int], returnType := some .boolean }, accessFlags := 9, code := some k1c1 }
def k1c2 : Code := { maxStack := 3, maxLocals := 5, code := method_3_code, exceptionTable := #[], attributes := #[] }
def k1m2 : Method := { name := "expected", desc := "(JI)J", sig := { parameters := [.long, .int], returnType := some .long }, accessFlags := 10, code := some k1c2 }
/-- com/example/routeward/routeward/net/IpPrefixMaskedLowPinLaw -/
def k1 : Class := { plain "com/example/routeward/routeward/net/IpPrefixMaskedLowPinLaw" (some 0) with
  accessFlags := 49
  interfaces := #[]
  cf := some (fileOf pool1 23 #[] #[{ accessFlags := 2, nameIndex := 5, descriptorIndex := 6, attributes := #[] }, { accessFlags := 9, nameIndex := 30, descriptorIndex := 31, attributes := #[] }, { accessFlags := 10, nameIndex := 26, descriptorIndex := 27, attributes := #[] }] 49 2 #[] #[])
  fields := #[]
  methods := #[k1m0, k1m1, k1m2]
  instanceTypes := #[]
  staticTypes := #[]
  resolved := Array.replicate 35 none
  statics := none }

def pool2 : Array CpInfo := pool [(1, .methodref 2 3), (0, .class_ 4), (0, .nameAndType 5 6), (0, u "java/lang/Object"), (0, u "<init>"), (0, u "()V"), (0, .class_ 8), (0, u "java/lang/Record")] 13

def k2c0 : Code := { maxStack := 1, maxLocals := 1, code := jdk_30_method_1_code, exceptionTable := #[], attributes := #[] }
def k2m0 : Method := { name := "<init>", desc := "()V", sig := { parameters := [], returnType := none }, accessFlags := 4, code := some k2c0 }
/-- java/lang/Record -/
def k2 : Class := { plain "java/lang/Record" (some 0) with
  accessFlags := 1057
  interfaces := #[]
  cf := some (fileOf pool2 7 #[] #[{ accessFlags := 4, nameIndex := 5, descriptorIndex := 6, attributes := #[] }] 1057 2 #[] #[])
  fields := #[]
  methods := #[k2m0]
  instanceTypes := #[]
  staticTypes := #[]
  resolved := Array.replicate 22 none
  statics := none }

def pool3 : Array CpInfo := pool [(1, .class_ 2), (0, u "java/lang/Comparable"), (0, .class_ 4), (0, u "java/lang/Object")] 7

/-- java/lang/Comparable -/
def k3 : Class := { plain "java/lang/Comparable" (some 0) with
  accessFlags := 1537
  interfaces := #[]
  cf := some (fileOf pool3 1 #[] #[] 1537 3 #[] #[])
  fields := #[]
  methods := #[]
  instanceTypes := #[]
  staticTypes := #[]
  resolved := Array.replicate 12 none
  statics := none }

def pool4 : Array CpInfo := pool [(1, .methodref 2 3), (0, .class_ 4), (0, .nameAndType 5 6), (0, u "java/lang/Record"), (0, u "<init>"), (0, u "()V"), (0, .string 8), (0, u "family"), (0, .methodref 10 11), (0, .class_ 12), (0, .nameAndType 13 14), (0, u "java/util/Objects"), (0, u "requireNonNull"), (0, u "(Ljava/lang/Object;Ljava/lang/String;)Ljava/lang/Object;"), (0, .methodref 16 17), (0, .class_ 18), (0, .nameAndType 19 20), (0, u "com/example/routeward/routeward/net/IpFamily"), (0, u "bits"), (0, u "()I"), (9, .methodref 31 32), (0, .class_ 33), (0, .nameAndType 34 35), (0, u "com/example/routeward/routeward/net/IpPrefix"), (0, u "mask"), (0, u "(JI)J"), (2, .fieldref 31 39), (0, .nameAndType 8 40), (0, u "Lcom/example/routeward/routeward/net/IpFamily;"), (0, .fieldref 31 42), (0, .nameAndType 43 44), (0, u "high"), (0, u "J"), (0, .fieldref 31 46), (0, .nameAndType 47 44), (0, u "low"), (0, .fieldref 31 49), (0, .nameAndType 50 51), (0, u "length"), (0, u "I"), (28, u "(Lcom/example/routeward/routeward/net/IpFamily;JJI)V"), (62, .long 18446744073709551615), (73, .class_ 218), (0, u "java/lang/Comparable"), (0, u "IPV6_GROUPS"), (9, u "(I)J"), (0, u "maskedLow")] 45

def k4c0 : Code := { maxStack := 4, maxLocals := 7, code := prog_15_method_1_code, exceptionTable := #[], attributes := #[] }
def k4m0 : Method := { name := "<init>", desc := "(Lcom/example/routeward/routeward/net/IpFamily;JJI)V", sig := { parameters := [(.object "com/example/routeward/routeward/net/IpFamily"), .long, .long, .int], returnType := none }, accessFlags := 1, code := some k4c0 }
def k4c1 : Code := { maxStack := 4, maxLocals := 2, code := prog_15_method_5_code, exceptionTable := #[], attributes := #[] }
def k4m1 : Method := { name := "maskedLow", desc := "(I)J", sig := { parameters := [.int], returnType := some .long }, accessFlags := 1, code := some k4c1 }
def k4c2 : Code := { maxStack := 6, maxLocals := 3, code := prog_15_method_8_code, exceptionTable := #[], attributes := #[] }
def k4m2 : Method := { name := "mask", desc := "(JI)J", sig := { parameters := [.long, .int], returnType := some .long }, accessFlags := 10, code := some k4c2 }
/-- com/example/routeward/routeward/net/IpPrefix -/
def k4 : Class := { plain "com/example/routeward/routeward/net/IpPrefix" (some 2) with
  accessFlags := 49
  interfaces := #[3]
  cf := some (fileOf pool4 31 #[] #[{ accessFlags := 1, nameIndex := 5, descriptorIndex := 80, attributes := #[] }, { accessFlags := 1, nameIndex := 230, descriptorIndex := 229, attributes := #[] }, { accessFlags := 10, nameIndex := 34, descriptorIndex := 35, attributes := #[] }] 49 2 #[217] #[{ accessFlags := 18, nameIndex := 8, descriptorIndex := 40, attributes := #[] }, { accessFlags := 18, nameIndex := 43, descriptorIndex := 44, attributes := #[] }, { accessFlags := 18, nameIndex := 47, descriptorIndex := 44, attributes := #[] }, { accessFlags := 18, nameIndex := 50, descriptorIndex := 51, attributes := #[] }, { accessFlags := 26, nameIndex := 219, descriptorIndex := 51, attributes := #[] }])
  fields := #[{ name := "family", type := (.object "com/example/routeward/routeward/net/IpFamily"), accessFlags := 18, slot := 0, constantValue := 0 }, { name := "high", type := .long, accessFlags := 18, slot := 1, constantValue := 0 }, { name := "low", type := .long, accessFlags := 18, slot := 2, constantValue := 0 }, { name := "length", type := .int, accessFlags := 18, slot := 3, constantValue := 0 }, { name := "IPV6_GROUPS", type := .int, accessFlags := 26, slot := 0, constantValue := 0 }]
  methods := #[k4m0, k4m1, k4m2]
  instanceTypes := #[(.object "com/example/routeward/routeward/net/IpFamily"), .long, .long, .int]
  staticTypes := #[.int]
  resolved := Array.replicate 276 none
  statics := none }

def pool5 : Array CpInfo := pool [(1, .class_ 2), (0, u "java/lang/constant/Constable"), (0, .class_ 4), (0, u "java/lang/Object")] 6

/-- java/lang/constant/Constable -/
def k5 : Class := { plain "java/lang/constant/Constable" (some 0) with
  accessFlags := 1537
  interfaces := #[]
  cf := some (fileOf pool5 1 #[] #[] 1537 3 #[] #[])
  fields := #[]
  methods := #[]
  instanceTypes := #[]
  staticTypes := #[]
  resolved := Array.replicate 11 none
  statics := none }

def pool6 : Array CpInfo := pool [(1, .class_ 2), (0, u "java/io/Serializable"), (0, .class_ 4), (0, u "java/lang/Object")] 2

/-- java/io/Serializable -/
def k6 : Class := { plain "java/io/Serializable" (some 0) with
  accessFlags := 1537
  interfaces := #[]
  cf := some (fileOf pool6 1 #[] #[] 1537 3 #[] #[])
  fields := #[]
  methods := #[]
  instanceTypes := #[]
  staticTypes := #[]
  resolved := Array.replicate 7 none
  statics := none }

def pool7 : Array CpInfo := pool [(2, .class_ 4), (1, u "java/lang/Enum"), (0, u "name"), (0, u "Ljava/lang/String;"), (2, u "ordinal"), (0, u "I"), (1, .class_ 14), (1, u "java/lang/Object"), (4, u "hash"), (86, .class_ 108), (1, u "java/lang/Enum$EnumDesc"), (2, .class_ 112), (0, u "java/lang/constant/Constable"), (0, .class_ 114), (0, u "java/lang/Comparable"), (0, .class_ 116), (0, u "java/io/Serializable")] 87

/-- java/lang/Enum -/
def k7 : Class := { plain "java/lang/Enum" (some 0) with
  accessFlags := 1057
  interfaces := #[5, 3, 6]
  cf := some (fileOf pool7 2 #[.nestMembers #[106]] #[] 1057 12 #[111, 113, 115] #[{ accessFlags := 18, nameIndex := 5, descriptorIndex := 6, attributes := #[] }, { accessFlags := 18, nameIndex := 9, descriptorIndex := 10, attributes := #[] }, { accessFlags := 2, nameIndex := 19, descriptorIndex := 10, attributes := #[] }])
  fields := #[{ name := "name", type := (.object "java/lang/String"), accessFlags := 18, slot := 0, constantValue := 0 }, { name := "ordinal", type := .int, accessFlags := 18, slot := 1, constantValue := 0 }, { name := "hash", type := .int, accessFlags := 2, slot := 2, constantValue := 0 }]
  methods := #[]
  instanceTypes := #[(.object "java/lang/String"), .int, .int]
  staticTypes := #[]
  resolved := Array.replicate 204 none
  statics := none }

def pool8 : Array CpInfo := pool [(1, .class_ 2), (0, u "com/example/routeward/routeward/net/IpFamily"), (2, u "IPV4"), (0, u "Lcom/example/routeward/routeward/net/IpFamily;"), (2, u "IPV6"), (2, u "$VALUES"), (0, u "[Lcom/example/routeward/routeward/net/IpFamily;"), (6, .class_ 22), (1, u "java/lang/Enum"), (6, .fieldref 1 30), (0, .nameAndType 31 32), (0, u "bits"), (0, u "I"), (2, u "afi"), (16, u "()I")] 5

def k8c0 : Code := { maxStack := 1, maxLocals := 1, code := prog_14_method_4_code, exceptionTable := #[], attributes := #[] }
def k8m0 : Method := { name := "bits", desc := "()I", sig := { parameters := [], returnType := some .int }, accessFlags := 1, code := some k8c0 }
/-- com/example/routeward/routeward/net/IpFamily -/
def k8 : Class := { plain "com/example/routeward/routeward/net/IpFamily" (some 7) with
  accessFlags := 16433
  interfaces := #[]
  cf := some (fileOf pool8 1 #[] #[{ accessFlags := 1, nameIndex := 31, descriptorIndex := 52, attributes := #[] }] 16433 20 #[] #[{ accessFlags := 16409, nameIndex := 5, descriptorIndex := 6, attributes := #[] }, { accessFlags := 16409, nameIndex := 9, descriptorIndex := 6, attributes := #[] }, { accessFlags := 18, nameIndex := 31, descriptorIndex := 32, attributes := #[] }, { accessFlags := 18, nameIndex := 35, descriptorIndex := 32, attributes := #[] }, { accessFlags := 4122, nameIndex := 12, descriptorIndex := 13, attributes := #[] }])
  fields := #[{ name := "IPV4", type := (.object "com/example/routeward/routeward/net/IpFamily"), accessFlags := 16409, slot := 0, constantValue := 0 }, { name := "IPV6", type := (.object "com/example/routeward/routeward/net/IpFamily"), accessFlags := 16409, slot := 1, constantValue := 0 }, { name := "bits", type := .int, accessFlags := 18, slot := 3, constantValue := 0 }, { name := "afi", type := .int, accessFlags := 18, slot := 4, constantValue := 0 }, { name := "$VALUES", type := (.array (.object "com/example/routeward/routeward/net/IpFamily")), accessFlags := 4122, slot := 2, constantValue := 0 }]
  methods := #[k8m0]
  instanceTypes := #[(.object "java/lang/String"), .int, .int, .int, .int]
  staticTypes := #[(.object "com/example/routeward/routeward/net/IpFamily"), (.object "com/example/routeward/routeward/net/IpFamily"), (.array (.object "com/example/routeward/routeward/net/IpFamily"))]
  resolved := Array.replicate 58 none
  statics := some 0 }

def pool9 : Array CpInfo := pool [(2, .class_ 4), (1, u "java/lang/CharSequence"), (42, .class_ 48), (0, u "java/lang/CharSequence$1CodePointIterator"), (10, .class_ 60), (0, u "java/lang/CharSequence$1CharIterator"), (5, .class_ 67), (0, u "java/lang/Object")] 63

/-- java/lang/CharSequence -/
def k9 : Class := { plain "java/lang/CharSequence" (some 0) with
  accessFlags := 1537
  interfaces := #[]
  cf := some (fileOf pool9 2 #[.nestMembers #[47, 59]] #[] 1537 66 #[] #[])
  fields := #[]
  methods := #[]
  instanceTypes := #[]
  staticTypes := #[]
  resolved := Array.replicate 131 none
  statics := none }

def pool10 : Array CpInfo := pool [(1, .class_ 2), (0, u "java/lang/constant/ConstantDesc"), (0, .class_ 4), (0, u "java/lang/Object")] 32

/-- java/lang/constant/ConstantDesc -/
def k10 : Class := { plain "java/lang/constant/ConstantDesc" (some 0) with
  accessFlags := 1537
  interfaces := #[]
  cf := some (fileOf pool10 1 #[] #[] 1537 3 #[] #[])
  fields := #[]
  methods := #[]
  instanceTypes := #[]
  staticTypes := #[]
  resolved := Array.replicate 37 none
  statics := none }

def pool11 : Array CpInfo := pool [(2, .class_ 4), (1, u "java/lang/Object"), (0, u "<init>"), (0, u "()V"), (3, .class_ 12), (1, u "java/lang/String"), (0, u "value"), (0, u "[B"), (2, u "coder"), (0, u "B"), (2, u "hash"), (0, u "I"), (2, u "hashIsZero"), (0, u "Z"), (13, u "COMPACT_STRINGS"), (534, .class_ 576), (0, u "java/lang/CharSequence"), (22, u "CASE_INSENSITIVE_ORDER"), (0, u "Ljava/util/Comparator;"), (500, u "serialPersistentFields"), (0, u "[Ljava/io/ObjectStreamField;"), (0, .class_ 1104), (0, u "java/lang/String$CaseInsensitiveComparator"), (1, .class_ 1107), (0, u "java/io/Serializable"), (0, .class_ 1109), (0, u "java/lang/Comparable"), (0, .class_ 1111), (0, u "java/lang/constant/Constable"), (0, .class_ 1113), (0, u "java/lang/constant/ConstantDesc"), (2, u "serialVersionUID"), (0, u "J"), (3, u "REPL"), (0, u "C"), (2, u "LATIN1"), (1, u "UTF16")] 323

def k11m0 : Method := { name := "<init>", desc := "()V", sig := { parameters := [], returnType := none }, accessFlags := 1, code := none }
/-- java/lang/String -/
def k11 : Class := { plain "java/lang/String" (some 0) with
  accessFlags := 49
  interfaces := #[6, 3, 9, 5, 10]
  cf := some (fileOf pool11 10 #[.nestMembers #[1103]] #[{ accessFlags := 1, nameIndex := 5, descriptorIndex := 6, attributes := #[] }] 49 2 #[1106, 1108, 575, 1110, 1112] #[{ accessFlags := 18, nameIndex := 13, descriptorIndex := 14, attributes := #[] }, { accessFlags := 18, nameIndex := 17, descriptorIndex := 18, attributes := #[] }, { accessFlags := 2, nameIndex := 21, descriptorIndex := 22, attributes := #[] }, { accessFlags := 2, nameIndex := 25, descriptorIndex := 26, attributes := #[] }, { accessFlags := 26, nameIndex := 1116, descriptorIndex := 1117, attributes := #[] }, { accessFlags := 24, nameIndex := 40, descriptorIndex := 26, attributes := #[] }, { accessFlags := 26, nameIndex := 1101, descriptorIndex := 1102, attributes := #[] }, { accessFlags := 26, nameIndex := 1121, descriptorIndex := 1122, attributes := #[] }, { accessFlags := 25, nameIndex := 599, descriptorIndex := 600, attributes := #[] }, { accessFlags := 24, nameIndex := 1125, descriptorIndex := 18, attributes := #[] }, { accessFlags := 24, nameIndex := 1127, descriptorIndex := 18, attributes := #[] }])
  fields := #[{ name := "value", type := (.array .byte), accessFlags := 18, slot := 0, constantValue := 0 }, { name := "coder", type := .byte, accessFlags := 18, slot := 1, constantValue := 0 }, { name := "hash", type := .int, accessFlags := 2, slot := 2, constantValue := 0 }, { name := "hashIsZero", type := .boolean, accessFlags := 2, slot := 3, constantValue := 0 }, { name := "serialVersionUID", type := .long, accessFlags := 26, slot := 0, constantValue := 0 }, { name := "COMPACT_STRINGS", type := .boolean, accessFlags := 24, slot := 1, constantValue := 0 }, { name := "serialPersistentFields", type := (.array (.object "java/io/ObjectStreamField")), accessFlags := 26, slot := 2, constantValue := 0 }, { name := "REPL", type := .char, accessFlags := 26, slot := 3, constantValue := 0 }, { name := "CASE_INSENSITIVE_ORDER", type := (.object "java/util/Comparator"), accessFlags := 25, slot := 4, constantValue := 0 }, { name := "LATIN1", type := .byte, accessFlags := 24, slot := 5, constantValue := 0 }, { name := "UTF16", type := .byte, accessFlags := 24, slot := 6, constantValue := 0 }]
  methods := #[k11m0]
  instanceTypes := #[(.array .byte), .byte, .int, .boolean]
  staticTypes := #[.long, .boolean, (.array (.object "java/io/ObjectStreamField")), .char, (.object "java/util/Comparator"), .byte, .byte]
  resolved := Array.replicate 1451 none
  statics := none }

def pool12 : Array CpInfo := pool [(2, .class_ 4), (1, u "java/lang/Object"), (0, u "<init>"), (0, u "()V"), (35, .class_ 44), (1, u "java/util/Objects"), (0, u "requireNonNull"), (48, u "(Ljava/lang/Object;Ljava/lang/String;)Ljava/lang/Object;")] 89

def k12m0 : Method := { name := "<init>", desc := "()V", sig := { parameters := [], returnType := none }, accessFlags := 2, code := none }
def k12c1 : Code := { maxStack := 3, maxLocals := 2, code := jdk_31_method_11_code, exceptionTable := #[], attributes := #[] }
def k12m1 : Method := { name := "requireNonNull", desc := "(Ljava/lang/Object;Ljava/lang/String;)Ljava/lang/Object;", sig := { parameters := [(.object "java/lang/Object"), (.object "java/lang/String")], returnType := some (.object "java/lang/Object") }, accessFlags := 9, code := some k12c1 }
/-- java/util/Objects -/
def k12 : Class := { plain "java/util/Objects" (some 0) with
  accessFlags := 49
  interfaces := #[]
  cf := some (fileOf pool12 42 #[] #[{ accessFlags := 2, nameIndex := 5, descriptorIndex := 6, attributes := #[] }, { accessFlags := 9, nameIndex := 45, descriptorIndex := 94, attributes := #[] }] 49 2 #[] #[])
  fields := #[]
  methods := #[k12m0, k12m1]
  instanceTypes := #[]
  staticTypes := #[]
  resolved := Array.replicate 184 none
  statics := none }

def pool13 : Array CpInfo := pool [(1, u "java/lang/Cloneable"), (0, .class_ 1), (0, u "java/lang/Object"), (0, .class_ 3)] 3

/-- java/lang/Cloneable -/
def k13 : Class := { plain "java/lang/Cloneable" (some 0) with
  accessFlags := 1537
  interfaces := #[]
  cf := some (fileOf pool13 2 #[] #[] 1537 4 #[] #[])
  fields := #[]
  methods := #[]
  instanceTypes := #[]
  staticTypes := #[]
  resolved := Array.replicate 8 none
  statics := none }

/-- the primitive byte -/
def k14 : Class := { plain "byte" none with kind := .primitive 'B', accessFlags := 0x411 }
/-- [B -/
def k15 : Class := { plain "[B" (some 0) with kind := .array 14 .byte, interfaces := #[13, 6], accessFlags := 1041 }

/-- the primitive int -/
def k16 : Class := { plain "int" none with kind := .primitive 'I', accessFlags := 0x411 }
/-- [I -/
def k17 : Class := { plain "[I" (some 0) with kind := .array 16 .int, interfaces := #[13, 6], accessFlags := 1041 }

def heap : Heap := #[{ cls := 8, slots := #[.null, .ref 1, .null], vm := .statics 8 },
  { cls := 8, slots := #[.null, .int 0, .int 0, .int 128, .int 0], vm := .none }]
def classes : Array Class := #[k0, k1, k2, k3, k4, k5, k6, k7, k8, k9, k10, k11, k12, k13, k14, k15, k16, k17]
def interned : List (Array UInt16 × Addr) := []
def slotsUsed : Nat := 8
def theMethod : MethodId := ⟨1, 1⟩
def args0 : Array Value := #[.long 5, .long 7, .int 3]
def aboutOver (below : List Frame) : State where
  vm := { classes := classes, interned := interned.toArray }
  heap := heap
  slotsUsed := slotsUsed
  threads := #[{ frames := .invoking theMethod args0 :: below }]
def below0 : List Frame := [.native { method := ⟨0, 0⟩, args := #[] }]
def about1 : State := aboutOver below0
def p0 : Program := .bare "" "" ""
def e0 : Env := launch0.env 0 0 0
theorem w_frames : about1.frames = Frame.invoking theMethod args0 :: below0 := rfl
set_option maxRecDepth 65536 in
theorem w_args : argsFit about1.vm theMethod args0 = true := by decide +kernel
set_option maxRecDepth 65536 in
theorem w_heap : heapFits about1 = true := by decide +kernel
set_option maxRecDepth 65536 in
theorem w_runnable : about1.curStatus? = some .runnable := by decide +kernel
set_option maxRecDepth 65536 in
theorem w_alone : about1.alone = true := by decide +kernel
set_option maxRecDepth 65536 in
theorem w_named : about1.methodNamed? x = some theMethod := by decide +kernel
set_option maxRecDepth 65536 in
theorem w_hears : about1.hears theMethod below0 = true := by decide +kernel
set_option maxRecDepth 65536 in
theorem w_ripe : about1.ripe theMethod args0 below0 = true := by decide +kernel
theorem w_running : about1.status = .running := rfl
set_option maxRecDepth 65536 in
theorem w_room : about1.hasRoom e0.platform room_1 = true :=
  launch0.hasRoom_least _ room_1 (by decide +kernel) (by decide +kernel) (by decide +kernel) (by decide +kernel) (by decide +kernel) (by decide +kernel)
theorem allAtoms_all (ts : List Jvm.Cond) (a : Array Jvm.Value) (st : Jvm.State) : (allAtoms ts).before a st = ts.all (fun c => c.before a st) := by
  induction ts with
  | nil => rfl
  | cons c t ih =>
    show (Jvm.Cond.and c (allAtoms t)).before a st = _
    rw [Jvm.Cond.before_and, ih, List.all_cons]
def words1 : List Jvm.Cond := Jvm.Cond.code x code maxLocals ret :: tables_1
/-- a 'code' word, met by the world's own term for the bytes: nothing is compared byte by byte -/
theorem code_word {y : MethodName} {bytes : ByteArray} {mx : Nat} {rt : Option FieldType} {a : Array Value} {s : State} {m : MethodId} {meth : Method} {c : Code} (h1 : s.methodNamed? y = some m) (h2 : s.vm.method? m = some meth) (h3 : meth.code = some c) (h4 : c.code = bytes)
    (h5 : (c.maxLocals == mx && c.exceptionTable.isEmpty && decide (c.maxStack ≤ mostOperands) && decide (meth.sig.returnType = rt) && !meth.locks && decide (parseMethodDescriptor y.desc = some meth.sig)) = true) : (Jvm.Cond.code y bytes mx rt).before a s = true := by
  simp only [Bool.and_eq_true, beq_iff_eq, Bool.not_eq_true', decide_eq_true_eq] at h5
  obtain ⟨⟨⟨⟨⟨g1, g2⟩, g3⟩, g4⟩, g5⟩, g6⟩ := h5
  simp [Cond.before, Cond.holds, Cond.value, h1, h2, h3, h4, g1, g2, g3, g4, g5, g6]
def isCode : Jvm.Cond → Bool
  | .code _ _ _ _ => true
  | _ => false
theorem all_split {L : List Jvm.Cond} {P : Jvm.Cond → Bool} (h1 : L.all (fun c => isCode c || P c) = true) (h2 : ∀ c ∈ L.filter isCode, P c = true) : L.all P = true := by
  refine List.all_eq_true.mpr fun c hc => ?_
  have h := List.all_eq_true.mp h1 c hc
  rcases Bool.eq_false_or_eq_true (isCode c) with hi | hi
  · exact h2 c (List.mem_filter.mpr ⟨hc, hi⟩)
  · simpa [hi] using h
set_option maxRecDepth 65536 in
theorem w_c0 : (Jvm.Cond.code x code maxLocals ret).before args0 about1 = true := code_word (m := ⟨1, 1⟩) (meth := k1m1) (c := k1c1) (by decide +kernel) rfl rfl rfl (by decide +kernel)
set_option maxRecDepth 65536 in
theorem w_c1 : (Jvm.Cond.code ({ cls := "com/example/routeward/routeward/net/IpPrefix", name := "<init>", desc := "(Lcom/example/routeward/routeward/net/IpFamily;JJI)V" } : Jvm.MethodName) prog_15_method_1_code (7 : Nat) (Option.none : Option Jvm.ClassFile.FieldType)).before args0 about1 = true := code_word (m := ⟨4, 0⟩) (meth := k4m0) (c := k4c0) (by decide +kernel) rfl rfl rfl (by decide +kernel)
set_option maxRecDepth 65536 in
theorem w_c2 : (Jvm.Cond.code ({ cls := "java/lang/Record", name := "<init>", desc := "()V" } : Jvm.MethodName) jdk_30_method_1_code (1 : Nat) (Option.none : Option Jvm.ClassFile.FieldType)).before args0 about1 = true := code_word (m := ⟨2, 0⟩) (meth := k2m0) (c := k2c0) (by decide +kernel) rfl rfl rfl (by decide +kernel)
set_option maxRecDepth 65536 in
theorem w_c3 : (Jvm.Cond.code ({ cls := "java/lang/Object", name := "<init>", desc := "()V" } : Jvm.MethodName) object_method_1_code (1 : Nat) (Option.none : Option Jvm.ClassFile.FieldType)).before args0 about1 = true := code_word (m := ⟨0, 0⟩) (meth := k0m0) (c := k0c0) (by decide +kernel) rfl rfl rfl (by decide +kernel)
set_option maxRecDepth 65536 in
theorem w_c4 : (Jvm.Cond.code ({ cls := "java/util/Objects", name := "requireNonNull", desc := "(Ljava/lang/Object;Ljava/lang/String;)Ljava/lang/Object;" } : Jvm.MethodName) jdk_31_method_11_code (2 : Nat) (Option.some (Jvm.ClassFile.FieldType.object "java/lang/Object"))).before args0 about1 = true := code_word (m := ⟨12, 1⟩) (meth := k12m1) (c := k12c1) (by decide +kernel) rfl rfl rfl (by decide +kernel)
set_option maxRecDepth 65536 in
theorem w_c5 : (Jvm.Cond.code ({ cls := "com/example/routeward/routeward/net/IpFamily", name := "bits", desc := "()I" } : Jvm.MethodName) prog_14_method_4_code (1 : Nat) (Option.some Jvm.ClassFile.FieldType.int)).before args0 about1 = true := code_word (m := ⟨8, 0⟩) (meth := k8m0) (c := k8c0) (by decide +kernel) rfl rfl rfl (by decide +kernel)
set_option maxRecDepth 65536 in
theorem w_c6 : (Jvm.Cond.code ({ cls := "com/example/routeward/routeward/net/IpPrefix", name := "mask", desc := "(JI)J" } : Jvm.MethodName) prog_15_method_8_code (3 : Nat) (Option.some Jvm.ClassFile.FieldType.long)).before args0 about1 = true := code_word (m := ⟨4, 2⟩) (meth := k4m2) (c := k4c2) (by decide +kernel) rfl rfl rfl (by decide +kernel)
set_option maxRecDepth 65536 in
theorem w_c7 : (Jvm.Cond.code ({ cls := "com/example/routeward/routeward/net/IpPrefix", name := "maskedLow", desc := "(I)J" } : Jvm.MethodName) prog_15_method_5_code (2 : Nat) (Option.some Jvm.ClassFile.FieldType.long)).before args0 about1 = true := code_word (m := ⟨4, 1⟩) (meth := k4m1) (c := k4c1) (by decide +kernel) rfl rfl rfl (by decide +kernel)
set_option maxRecDepth 65536 in
theorem w_c8 : (Jvm.Cond.code ({ cls := "com/example/routeward/routeward/net/IpPrefixMaskedLowPinLaw", name := "expected", desc := "(JI)J" } : Jvm.MethodName) method_3_code (5 : Nat) (Option.some Jvm.ClassFile.FieldType.long)).before args0 about1 = true := code_word (m := ⟨1, 2⟩) (meth := k1m2) (c := k1c2) (by decide +kernel) rfl rfl rfl (by decide +kernel)
def codes1 : List Jvm.Cond := [Jvm.Cond.code x code maxLocals ret, Jvm.Cond.code ({ cls := "com/example/routeward/routeward/net/IpPrefix", name := "<init>", desc := "(Lcom/example/routeward/routeward/net/IpFamily;JJI)V" } : Jvm.MethodName) prog_15_method_1_code (7 : Nat) (Option.none : Option Jvm.ClassFile.FieldType), Jvm.Cond.code ({ cls := "java/lang/Record", name := "<init>", desc := "()V" } : Jvm.MethodName) jdk_30_method_1_code (1 : Nat) (Option.none : Option Jvm.ClassFile.FieldType), Jvm.Cond.code ({ cls := "java/lang/Object", name := "<init>", desc := "()V" } : Jvm.MethodName) object_method_1_code (1 : Nat) (Option.none : Option Jvm.ClassFile.FieldType), Jvm.Cond.code ({ cls := "java/util/Objects", name := "requireNonNull", desc := "(Ljava/lang/Object;Ljava/lang/String;)Ljava/lang/Object;" } : Jvm.MethodName) jdk_31_method_11_code (2 : Nat) (Option.some (Jvm.ClassFile.FieldType.object "java/lang/Object")), Jvm.Cond.code ({ cls := "com/example/routeward/routeward/net/IpFamily", name := "bits", desc := "()I" } : Jvm.MethodName) prog_14_method_4_code (1 : Nat) (Option.some Jvm.ClassFile.FieldType.int), Jvm.Cond.code ({ cls := "com/example/routeward/routeward/net/IpPrefix", name := "mask", desc := "(JI)J" } : Jvm.MethodName) prog_15_method_8_code (3 : Nat) (Option.some Jvm.ClassFile.FieldType.long), Jvm.Cond.code ({ cls := "com/example/routeward/routeward/net/IpPrefix", name := "maskedLow", desc := "(I)J" } : Jvm.MethodName) prog_15_method_5_code (2 : Nat) (Option.some Jvm.ClassFile.FieldType.long), Jvm.Cond.code ({ cls := "com/example/routeward/routeward/net/IpPrefixMaskedLowPinLaw", name := "expected", desc := "(JI)J" } : Jvm.MethodName) method_3_code (5 : Nat) (Option.some Jvm.ClassFile.FieldType.long)]
set_option maxRecDepth 65536 in
theorem codes_eq : words1.filter isCode = codes1 := rfl
theorem w_codes : ∀ c ∈ words1.filter isCode, c.before args0 about1 = true := by
  rw [codes_eq]
  intro c hc
  simp only [codes1, List.mem_cons, List.not_mem_nil, or_false] at hc
  rcases hc with rfl | rfl | rfl | rfl | rfl | rfl | rfl | rfl | rfl
  · exact w_c0
  · exact w_c1
  · exact w_c2
  · exact w_c3
  · exact w_c4
  · exact w_c5
  · exact w_c6
  · exact w_c7
  · exact w_c8
set_option maxRecDepth 65536 in
theorem w_t1 : (words1.take 24).all (fun c => isCode c || c.before args0 about1) = true := by decide +kernel
set_option maxRecDepth 65536 in
theorem w_t2 : ((words1.drop 24).take 24).all (fun c => isCode c || c.before args0 about1) = true := by decide +kernel
set_option maxRecDepth 65536 in
theorem w_t3 : ((words1.drop 24).drop 24).all (fun c => isCode c || c.before args0 about1) = true := by decide +kernel
theorem w_tables : (allAtoms (Jvm.Cond.code x code maxLocals ret :: tables_1)).before args0 about1 = true := by
  rw [allAtoms_all]
  show words1.all (fun c => c.before args0 about1) = true
  refine all_split ?_ w_codes
  rw [← List.take_append_drop 24 words1, List.all_append, w_t1, ← List.take_append_drop 24 (words1.drop 24), List.all_append, w_t2, w_t3]
  rfl
set_option maxRecDepth 65536 in
theorem w_case : (Jvm.Cond.and given_1 narrow_1).before args0 about1 = true := by decide +kernel
theorem w_applies : (headSpec (Jvm.Cond.code x code maxLocals ret :: tables_1) room_1).applies x e0.platform about1 = true :=
  (Spec.applies_iff w_frames).mpr ⟨w_running, w_runnable, w_alone, w_named, w_hears, w_ripe, w_room, w_tables⟩
theorem atStart : AtStart classFile x code maxLocals ret World_1 tables_1 room_1 Calls_1 rest_1 Pre_1 launch0 p0 e0 about1 theMethod args0 below0 :=
  ⟨lists_1, trivial, launch0.admits_env _ _ _, launch0.least_env, fairChoices_fair.cas, fairChoices_fair.clock, w_frames, w_args, w_heap, w_applies, trivial, trivial, w_case⟩
end start1
theorem witness_1 : WitnessClaimed_1 := ⟨start1.p0, start1.e0, start1.about1, start1.theMethod, start1.args0, start1.below0, start1.atStart⟩
end Jvm.Pilot.@@N@@
