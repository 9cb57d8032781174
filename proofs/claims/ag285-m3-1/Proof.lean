import JvmDerived
import JvmDerived.Pilot.@@N@@Statement
import JvmDerived.Pilot.@@N@@Code
set_option linter.unusedVariables false
set_option linter.unusedSimpArgs false
namespace Jvm.Pilot.@@N@@
open Jvm Jvm.ClassFile Sem Op Lib Jvm.Free Jvm.Stand Jvm.LawKit Jvm.RoadKit Bundle Jvm.Pilot.@@N@@.Jvm.D
def own_Ends (tb : Tables) (e : Env) (below : List Frame) (P : Outcome → State → Prop) (S : State) : Prop := ∃ t o, Steps tb e below S t ∧ t.status = .running ∧ Ended t below o ∧ P o t
theorem own_to {tb : Tables} {e : Env} {below : List Frame} {P : Outcome → State → Prop} {S S' : State} (h : ∀ target, Steps tb e below S' target → Steps tb e below S target) (g : own_Ends tb e below P S') : own_Ends tb e below P S := by
  obtain ⟨t, o, h1, r⟩ := g
  exact ⟨t, o, h _ h1, r⟩
theorem own_tr {tb : Tables} {e : Env} {below : List Frame} {P : Outcome → State → Prop} {S S' : State} (h : Steps tb e below S S') (g : own_Ends tb e below P S') : own_Ends tb e below P S := by
  obtain ⟨t, o, h1, r⟩ := g
  exact ⟨t, o, h.trans h1, r⟩
theorem own_cast {tb : Tables} {e : Env} {below : List Frame} {P : Outcome → State → Prop} {T : State} {f f' : JFrame} (q : f = f') (g : own_Ends tb e below P (T.setTop f')) : own_Ends tb e below P (T.setTop f) := q ▸ g
def own_P (s : State) (Q : Option Value → Heap → List Loc → Prop) (ck sk : Nat) : Outcome → State → Prop := fun o U' => ∃ v L, o = .returned v ∧ Q v U'.heap L ∧ FrameEnd s o U' L ck sk
theorem own_leave {p : Program} {l : Launch} {e : Env} {R : Room} {s : State} {m : MethodId} {args : Array Value} {below : List Frame} {meth : Method} {c : Code} {T : State} {locs : List Loc} {cells slots : Nat} {F : JFrame} {Q : Option Value → Heap → List Loc → Prop} {ck sk : Nat}
    (X : Stand p l e R s m args below meth c T locs cells slots) {v : Option Value} (hv : meth.sig.returnType = none → v = none) (hQ : Q v T.heap locs) (hc : cells ≤ ck) (hs : slots ≤ sk)
    (hst : ∀ fs, (∀ (f : JFrame) (acts : List Action), f.method = m → f.locked = none → f.entered = [] → (doReturn e (T.setTop f) acts v).1 = T.setFrames fs) → Steps p.tables e below (T.setTop F) (T.setFrames fs)) (hlocks : meth.locks = false := by first | assumption | exact BodyLoose.notSynchronized (by assumption) | exact Body.notSynchronized (by assumption)) : own_Ends p.tables e below (own_P s Q ck sk) (T.setTop F) := by
  obtain ⟨fs, hr, hrun, hended, hW, hsame⟩ := X.leave hv hlocks
  exact ⟨_, _, hst fs hr, hrun, hended, _, _, rfl, hQ, ⟨_, rfl⟩, hW, hsame.mono hc hs⟩
def own_PW (s : State) (Q : Option Value → Heap → List Loc → Prop) (ck sk : Nat) : Outcome → State → Prop := fun o U' => ∃ v L, o = .returned v ∧ Q v U'.heap L ∧ ReturnedEndW s o U' L ck sk
theorem own_leaveW {p : Program} {l : Launch} {e : Env} {R : Room} {s : State} {vm1 : Vm} {m : MethodId} {args : Array Value} {below : List Frame} {meth : Method} {c : Code} {T : State} {locs : List Loc} {cells slots : Nat} {F : JFrame} {Q : Option Value → Heap → List Loc → Prop} {ck sk k0 : Nat}
    (X : Stand p l e R (s.setVm vm1) m args below meth c T locs cells slots) (hS : s.Since vm1 k0) (hk : k0 ≤ T.heap.size) {v : Option Value} (hv : meth.sig.returnType = none → v = none) (hQ : Q v T.heap locs) (hc : cells ≤ ck) (hs : slots ≤ sk)
    (hst : ∀ fs, (∀ (f : JFrame) (acts : List Action), f.method = m → f.locked = none → f.entered = [] → (doReturn e (T.setTop f) acts v).1 = T.setFrames fs) → Steps p.tables e below (T.setTop F) (T.setFrames fs)) (hlocks : meth.locks = false := by first | assumption | exact BodyLoose.notSynchronized (by assumption) | exact Body.notSynchronized (by assumption)) : own_Ends p.tables e below (own_PW s Q ck sk) (T.setTop F) := by
  obtain ⟨fs, hr, hrun, hended, h1, h2, h3, h4⟩ := X.leaveW hS hk hv hlocks
  exact ⟨_, _, hst fs hr, hrun, hended, _, _, rfl, hQ, h1, h2, h3, h4.mono hc hs⟩
theorem own_old_le {Z : State} {n0 : Nat} {h : Heap} (O : Old Z n0 h) : n0 ≤ h.size := O.1 ▸ O.2.1
theorem own_le {a b : Nat} (h : Nat.ble a b = true) : a ≤ b := Nat.le_of_ble_eq_true h
theorem own_lt {a b : Nat} (h : Nat.ble (a + 1) b = true) : a < b := Nat.le_of_ble_eq_true h
theorem own_irr (x : Int32) : ¬ x < x := by rw [Int32.lt_iff_toInt_lt]; omega
theorem own_eqI {args : Array Value} {s : State} {t : Term} {k : Int32} (h : (Jvm.Cond.eq t (.int k)).value args s none s [] = some true) : t.eval args s none [] s = some (.int k) := by
  obtain ⟨x, y, hx, hy, -, hk⟩ := cmp_v (Or.inl h)
  cases (show some (Value.int k) = some y from hy)
  obtain ⟨z, rfl⟩ := hk
  have e : (Term.int k).eval args s none [] s = some (.int k) := rfl
  simp only [Cond.value, hx, e, Option.some.injEq, decide_eq_true_eq] at h
  rw [hx]
  simp_all
theorem own_intne {a b : Int32} (h : a ≠ b) : Value.int a ≠ Value.int b := fun q => h (Value.int.inj q)

abbrev oM0 : MethodName := ⟨"java/lang/StringUTF16", "compress", "([CI[BII)I"⟩
abbrev oM1 : MethodName := ⟨"java/lang/StringUTF16", "compress", "([CII)[B"⟩
abbrev oM2 : MethodName := ⟨"java/lang/StringUTF16", "coderFromArrayLen", "([BI)B"⟩
abbrev oM3 : MethodName := ⟨"java/lang/String", "<init>", "([CIILjava/lang/Void;)V"⟩
abbrev oM4 : MethodName := ⟨"java/lang/String", "<init>", "([C)V"⟩
abbrev oM5 : MethodName := ⟨"java/lang/StringLatin1", "equals", "([B[B)Z"⟩
abbrev oM6 : MethodName := ⟨"java/lang/String", "equals", "(Ljava/lang/Object;)Z"⟩
abbrev oM7 : MethodName := ⟨"com/example/ship_shore_exchange/shipshoreexchange/model/Role", "values", "()[Lcom/example/ship_shore_exchange/shipshoreexchange/model/Role;"⟩
abbrev oM8 : MethodName := ⟨"com/example/ship_shore_exchange/shipshoreexchange/model/Role", "fromText", "(Ljava/lang/String;)Lcom/example/ship_shore_exchange/shipshoreexchange/model/Role;"⟩
abbrev oM9 : MethodName := ⟨"com/example/ship_shore_exchange/shipshoreexchange/model/Role", "text", "()Ljava/lang/String;"⟩
theorem ow0 {Z : State} {a0 : Array Value} (hw : ∀ d ∈ tables_1, d.before a0 Z = true) : (Jvm.Cond.arrayClass Jvm.ClassFile.FieldType.char).before a0 Z = true := hw _ (List.mem_of_getElem? (i := 0) rfl)
theorem ow1 {Z : State} {a0 : Array Value} (hw : ∀ d ∈ tables_1, d.before a0 Z = true) : (Jvm.Cond.classLink "com/example/ship_shore_exchange/shipshoreexchange/model/RoleFromTextPinLaw" (7 : Nat) "java/lang/String").before a0 Z = true := hw _ (List.mem_of_getElem? (i := 1) rfl)
theorem ow2 {Z : State} {a0 : Array Value} (hw : ∀ d ∈ tables_1, d.before a0 Z = true) : (Jvm.Cond.instantiable "java/lang/String" (4 : Nat)).before a0 Z = true := hw _ (List.mem_of_getElem? (i := 2) rfl)
theorem ow3 {Z : State} {a0 : Array Value} (hw : ∀ d ∈ tables_1, d.before a0 Z = true) : (Jvm.Cond.initialized "java/lang/String").before a0 Z = true := hw _ (List.mem_of_getElem? (i := 3) rfl)
theorem ow4 {Z : State} {a0 : Array Value} (hw : ∀ d ∈ tables_1, d.before a0 Z = true) : (Jvm.Cond.methodLink "com/example/ship_shore_exchange/shipshoreexchange/model/RoleFromTextPinLaw" (9 : Nat) ({ cls := "java/lang/String", name := "<init>", desc := "([C)V" } : Jvm.MethodName)).before a0 Z = true := hw _ (List.mem_of_getElem? (i := 4) rfl)
theorem ow5 {Z : State} {a0 : Array Value} (hw : ∀ d ∈ tables_1, d.before a0 Z = true) : (Jvm.Cond.instanceMethod ({ cls := "java/lang/String", name := "<init>", desc := "([C)V" } : Jvm.MethodName)).before a0 Z = true := hw _ (List.mem_of_getElem? (i := 5) rfl)
theorem ow6 {Z : State} {a0 : Array Value} (hw : ∀ d ∈ tables_1, d.before a0 Z = true) : (Jvm.Cond.code ({ cls := "java/lang/String", name := "<init>", desc := "([C)V" } : Jvm.MethodName) jdk_42_method_3_code (2 : Nat) (Option.none : Option Jvm.ClassFile.FieldType)).before a0 Z = true := hw _ (List.mem_of_getElem? (i := 6) rfl)
theorem ow7 {Z : State} {a0 : Array Value} (hw : ∀ d ∈ tables_1, d.before a0 Z = true) : (Jvm.Cond.methodLink "java/lang/String" (27 : Nat) ({ cls := "java/lang/String", name := "<init>", desc := "([CIILjava/lang/Void;)V" } : Jvm.MethodName)).before a0 Z = true := hw _ (List.mem_of_getElem? (i := 7) rfl)
theorem ow8 {Z : State} {a0 : Array Value} (hw : ∀ d ∈ tables_1, d.before a0 Z = true) : (Jvm.Cond.instanceMethod ({ cls := "java/lang/String", name := "<init>", desc := "([CIILjava/lang/Void;)V" } : Jvm.MethodName)).before a0 Z = true := hw _ (List.mem_of_getElem? (i := 8) rfl)
theorem ow10 {Z : State} {a0 : Array Value} (hw : ∀ d ∈ tables_1, d.before a0 Z = true) : (Jvm.Cond.code ({ cls := "java/lang/String", name := "<init>", desc := "([CIILjava/lang/Void;)V" } : Jvm.MethodName) jdk_42_method_149_code (6 : Nat) (Option.none : Option Jvm.ClassFile.FieldType)).before a0 Z = true := hw _ (List.mem_of_getElem? (i := 10) rfl)
theorem ow11 {Z : State} {a0 : Array Value} (hw : ∀ d ∈ tables_1, d.before a0 Z = true) : (Jvm.Cond.methodLink "java/lang/String" (1 : Nat) ({ cls := "java/lang/Object", name := "<init>", desc := "()V" } : Jvm.MethodName)).before a0 Z = true := hw _ (List.mem_of_getElem? (i := 11) rfl)
theorem ow12 {Z : State} {a0 : Array Value} (hw : ∀ d ∈ tables_1, d.before a0 Z = true) : (Jvm.Cond.instanceMethod ({ cls := "java/lang/Object", name := "<init>", desc := "()V" } : Jvm.MethodName)).before a0 Z = true := hw _ (List.mem_of_getElem? (i := 12) rfl)
theorem ow13 {Z : State} {a0 : Array Value} (hw : ∀ d ∈ tables_1, d.before a0 Z = true) : (Jvm.Cond.code ({ cls := "java/lang/Object", name := "<init>", desc := "()V" } : Jvm.MethodName) object_method_1_code (1 : Nat) (Option.none : Option Jvm.ClassFile.FieldType)).before a0 Z = true := hw _ (List.mem_of_getElem? (i := 13) rfl)
theorem ow14 {Z : State} {a0 : Array Value} (hw : ∀ d ∈ tables_1, d.before a0 Z = true) : (Jvm.Cond.fieldLink "java/lang/String" (38 : Nat) "java/lang/String" "COMPACT_STRINGS" "Z").before a0 Z = true := hw _ (List.mem_of_getElem? (i := 14) rfl)
theorem ow15 {Z : State} {a0 : Array Value} (hw : ∀ d ∈ tables_1, d.before a0 Z = true) : (Jvm.Cond.methodLink "java/lang/String" (177 : Nat) ({ cls := "java/lang/StringUTF16", name := "compress", desc := "([CII)[B" } : Jvm.MethodName)).before a0 Z = true := hw _ (List.mem_of_getElem? (i := 15) rfl)
theorem ow16 {Z : State} {a0 : Array Value} (hw : ∀ d ∈ tables_1, d.before a0 Z = true) : (Jvm.Cond.static ({ cls := "java/lang/StringUTF16", name := "compress", desc := "([CII)[B" } : Jvm.MethodName)).before a0 Z = true := hw _ (List.mem_of_getElem? (i := 16) rfl)
theorem ow17 {Z : State} {a0 : Array Value} (hw : ∀ d ∈ tables_1, d.before a0 Z = true) : (Jvm.Cond.initialized "java/lang/StringUTF16").before a0 Z = true := hw _ (List.mem_of_getElem? (i := 17) rfl)
theorem ow18 {Z : State} {a0 : Array Value} (hw : ∀ d ∈ tables_1, d.before a0 Z = true) : (Jvm.Cond.code ({ cls := "java/lang/StringUTF16", name := "compress", desc := "([CII)[B" } : Jvm.MethodName) jdk_52_method_16_code (6 : Nat) (Option.some (Jvm.ClassFile.FieldType.array Jvm.ClassFile.FieldType.byte))).before a0 Z = true := hw _ (List.mem_of_getElem? (i := 18) rfl)
theorem ow19 {Z : State} {a0 : Array Value} (hw : ∀ d ∈ tables_1, d.before a0 Z = true) : (Jvm.Cond.arrayClass Jvm.ClassFile.FieldType.byte).before a0 Z = true := hw _ (List.mem_of_getElem? (i := 19) rfl)
theorem ow20 {Z : State} {a0 : Array Value} (hw : ∀ d ∈ tables_1, d.before a0 Z = true) : (Jvm.Cond.methodLink "java/lang/StringUTF16" (115 : Nat) ({ cls := "java/lang/StringUTF16", name := "compress", desc := "([CI[BII)I" } : Jvm.MethodName)).before a0 Z = true := hw _ (List.mem_of_getElem? (i := 20) rfl)
theorem ow21 {Z : State} {a0 : Array Value} (hw : ∀ d ∈ tables_1, d.before a0 Z = true) : (Jvm.Cond.static ({ cls := "java/lang/StringUTF16", name := "compress", desc := "([CI[BII)I" } : Jvm.MethodName)).before a0 Z = true := hw _ (List.mem_of_getElem? (i := 21) rfl)
theorem ow22 {Z : State} {a0 : Array Value} (hw : ∀ d ∈ tables_1, d.before a0 Z = true) : (Jvm.Cond.code ({ cls := "java/lang/StringUTF16", name := "compress", desc := "([CI[BII)I" } : Jvm.MethodName) jdk_52_method_21_code (7 : Nat) (Option.some Jvm.ClassFile.FieldType.int)).before a0 Z = true := hw _ (List.mem_of_getElem? (i := 22) rfl)
theorem ow23 {Z : State} {a0 : Array Value} (hw : ∀ d ∈ tables_1, d.before a0 Z = true) : (Jvm.Cond.methodLink "java/lang/String" (47 : Nat) ({ cls := "java/lang/StringUTF16", name := "coderFromArrayLen", desc := "([BI)B" } : Jvm.MethodName)).before a0 Z = true := hw _ (List.mem_of_getElem? (i := 23) rfl)
theorem ow24 {Z : State} {a0 : Array Value} (hw : ∀ d ∈ tables_1, d.before a0 Z = true) : (Jvm.Cond.static ({ cls := "java/lang/StringUTF16", name := "coderFromArrayLen", desc := "([BI)B" } : Jvm.MethodName)).before a0 Z = true := hw _ (List.mem_of_getElem? (i := 24) rfl)
theorem ow25 {Z : State} {a0 : Array Value} (hw : ∀ d ∈ tables_1, d.before a0 Z = true) : (Jvm.Cond.code ({ cls := "java/lang/StringUTF16", name := "coderFromArrayLen", desc := "([BI)B" } : Jvm.MethodName) jdk_52_method_15_code (2 : Nat) (Option.some Jvm.ClassFile.FieldType.byte)).before a0 Z = true := hw _ (List.mem_of_getElem? (i := 25) rfl)
theorem ow26 {Z : State} {a0 : Array Value} (hw : ∀ d ∈ tables_1, d.before a0 Z = true) : (Jvm.Cond.fieldLink "java/lang/String" (15 : Nat) "java/lang/String" "coder" "B").before a0 Z = true := hw _ (List.mem_of_getElem? (i := 26) rfl)
theorem ow27 {Z : State} {a0 : Array Value} (hw : ∀ d ∈ tables_1, d.before a0 Z = true) : (Jvm.Cond.laysFinal "java/lang/String" "java/lang/String" "coder" "B").before a0 Z = true := hw _ (List.mem_of_getElem? (i := 27) rfl)
theorem ow28 {Z : State} {a0 : Array Value} (hw : ∀ d ∈ tables_1, d.before a0 Z = true) : (Jvm.Cond.fieldLink "java/lang/String" (9 : Nat) "java/lang/String" "value" "[B").before a0 Z = true := hw _ (List.mem_of_getElem? (i := 28) rfl)
theorem ow29 {Z : State} {a0 : Array Value} (hw : ∀ d ∈ tables_1, d.before a0 Z = true) : (Jvm.Cond.laysFinal "java/lang/String" "java/lang/String" "value" "[B").before a0 Z = true := hw _ (List.mem_of_getElem? (i := 29) rfl)
theorem ow30 {Z : State} {a0 : Array Value} (hw : ∀ d ∈ tables_1, d.before a0 Z = true) : (Jvm.Cond.fieldLink "com/example/ship_shore_exchange/shipshoreexchange/model/RoleFromTextPinLaw" (18 : Nat) "com/example/ship_shore_exchange/shipshoreexchange/model/Role" "REGISTRY" "Lcom/example/ship_shore_exchange/shipshoreexchange/model/Role;").before a0 Z = true := hw _ (List.mem_of_getElem? (i := 30) rfl)
theorem ow31 {Z : State} {a0 : Array Value} (hw : ∀ d ∈ tables_1, d.before a0 Z = true) : (Jvm.Cond.initialized "com/example/ship_shore_exchange/shipshoreexchange/model/Role").before a0 Z = true := hw _ (List.mem_of_getElem? (i := 31) rfl)
theorem ow32 {Z : State} {a0 : Array Value} (hw : ∀ d ∈ tables_1, d.before a0 Z = true) : (Jvm.Cond.laysStatic "com/example/ship_shore_exchange/shipshoreexchange/model/Role" "REGISTRY" "Lcom/example/ship_shore_exchange/shipshoreexchange/model/Role;").before a0 Z = true := hw _ (List.mem_of_getElem? (i := 32) rfl)
theorem ow33 {Z : State} {a0 : Array Value} (hw : ∀ d ∈ tables_1, d.before a0 Z = true) : (Jvm.Cond.methodLink "com/example/ship_shore_exchange/shipshoreexchange/model/RoleFromTextPinLaw" (21 : Nat) ({ cls := "com/example/ship_shore_exchange/shipshoreexchange/model/Role", name := "fromText", desc := "(Ljava/lang/String;)Lcom/example/ship_shore_exchange/shipshoreexchange/model/Role;" } : Jvm.MethodName)).before a0 Z = true := hw _ (List.mem_of_getElem? (i := 33) rfl)
theorem ow34 {Z : State} {a0 : Array Value} (hw : ∀ d ∈ tables_1, d.before a0 Z = true) : (Jvm.Cond.static ({ cls := "com/example/ship_shore_exchange/shipshoreexchange/model/Role", name := "fromText", desc := "(Ljava/lang/String;)Lcom/example/ship_shore_exchange/shipshoreexchange/model/Role;" } : Jvm.MethodName)).before a0 Z = true := hw _ (List.mem_of_getElem? (i := 34) rfl)
theorem ow35 {Z : State} {a0 : Array Value} (hw : ∀ d ∈ tables_1, d.before a0 Z = true) : (Jvm.Cond.code ({ cls := "com/example/ship_shore_exchange/shipshoreexchange/model/Role", name := "fromText", desc := "(Ljava/lang/String;)Lcom/example/ship_shore_exchange/shipshoreexchange/model/Role;" } : Jvm.MethodName) prog_10_method_5_code (5 : Nat) (Option.some (Jvm.ClassFile.FieldType.object "com/example/ship_shore_exchange/shipshoreexchange/model/Role"))).before a0 Z = true := hw _ (List.mem_of_getElem? (i := 35) rfl)
theorem ow36 {Z : State} {a0 : Array Value} (hw : ∀ d ∈ tables_1, d.before a0 Z = true) : (Jvm.Cond.methodLink "com/example/ship_shore_exchange/shipshoreexchange/model/Role" (33 : Nat) ({ cls := "com/example/ship_shore_exchange/shipshoreexchange/model/Role", name := "values", desc := "()[Lcom/example/ship_shore_exchange/shipshoreexchange/model/Role;" } : Jvm.MethodName)).before a0 Z = true := hw _ (List.mem_of_getElem? (i := 36) rfl)
theorem ow37 {Z : State} {a0 : Array Value} (hw : ∀ d ∈ tables_1, d.before a0 Z = true) : (Jvm.Cond.static ({ cls := "com/example/ship_shore_exchange/shipshoreexchange/model/Role", name := "values", desc := "()[Lcom/example/ship_shore_exchange/shipshoreexchange/model/Role;" } : Jvm.MethodName)).before a0 Z = true := hw _ (List.mem_of_getElem? (i := 37) rfl)
theorem ow38 {Z : State} {a0 : Array Value} (hw : ∀ d ∈ tables_1, d.before a0 Z = true) : (Jvm.Cond.code ({ cls := "com/example/ship_shore_exchange/shipshoreexchange/model/Role", name := "values", desc := "()[Lcom/example/ship_shore_exchange/shipshoreexchange/model/Role;" } : Jvm.MethodName) prog_10_method_1_code (0 : Nat) (Option.some (Jvm.ClassFile.FieldType.array (Jvm.ClassFile.FieldType.object "com/example/ship_shore_exchange/shipshoreexchange/model/Role")))).before a0 Z = true := hw _ (List.mem_of_getElem? (i := 38) rfl)
theorem ow39 {Z : State} {a0 : Array Value} (hw : ∀ d ∈ tables_1, d.before a0 Z = true) : (Jvm.Cond.fieldLink "com/example/ship_shore_exchange/shipshoreexchange/model/Role" (10 : Nat) "com/example/ship_shore_exchange/shipshoreexchange/model/Role" "$VALUES" "[Lcom/example/ship_shore_exchange/shipshoreexchange/model/Role;").before a0 Z = true := hw _ (List.mem_of_getElem? (i := 39) rfl)
theorem ow40 {Z : State} {a0 : Array Value} (hw : ∀ d ∈ tables_1, d.before a0 Z = true) : (Jvm.Cond.laysStatic "com/example/ship_shore_exchange/shipshoreexchange/model/Role" "$VALUES" "[Lcom/example/ship_shore_exchange/shipshoreexchange/model/Role;").before a0 Z = true := hw _ (List.mem_of_getElem? (i := 40) rfl)
theorem ow41 {Z : State} {a0 : Array Value} (hw : ∀ d ∈ tables_1, d.before a0 Z = true) : (Jvm.Cond.methodLink "com/example/ship_shore_exchange/shipshoreexchange/model/Role" (14 : Nat) ({ cls := "[Lcom/example/ship_shore_exchange/shipshoreexchange/model/Role;", name := "clone", desc := "()Ljava/lang/Object;" } : Jvm.MethodName)).before a0 Z = true := hw _ (List.mem_of_getElem? (i := 41) rfl)
theorem ow42 {Z : State} {a0 : Array Value} (hw : ∀ d ∈ tables_1, d.before a0 Z = true) : (Jvm.Cond.sameMethod "[Lcom/example/ship_shore_exchange/shipshoreexchange/model/Role;" "java/lang/Object" "clone" "()Ljava/lang/Object;").before a0 Z = true := hw _ (List.mem_of_getElem? (i := 42) rfl)
theorem ow44 {Z : State} {a0 : Array Value} (hw : ∀ d ∈ tables_1, d.before a0 Z = true) : (Jvm.Cond.instanceMethod ({ cls := "java/lang/Object", name := "clone", desc := "()Ljava/lang/Object;" } : Jvm.MethodName)).before a0 Z = true := hw _ (List.mem_of_getElem? (i := 44) rfl)
theorem ow45 {Z : State} {a0 : Array Value} (hw : ∀ d ∈ tables_1, d.before a0 Z = true) : (Jvm.Cond.selects "[Lcom/example/ship_shore_exchange/shipshoreexchange/model/Role;" ({ cls := "[Lcom/example/ship_shore_exchange/shipshoreexchange/model/Role;", name := "clone", desc := "()Ljava/lang/Object;" } : Jvm.MethodName) ({ cls := "java/lang/Object", name := "clone", desc := "()Ljava/lang/Object;" } : Jvm.MethodName)).before a0 Z = true := hw _ (List.mem_of_getElem? (i := 45) rfl)
theorem ow46 {Z : State} {a0 : Array Value} (hw : ∀ d ∈ tables_1, d.before a0 Z = true) : (Jvm.Cond.native ({ cls := "java/lang/Object", name := "clone", desc := "()Ljava/lang/Object;" } : Jvm.MethodName)).before a0 Z = true := hw _ (List.mem_of_getElem? (i := 46) rfl)
theorem ow47 {Z : State} {a0 : Array Value} (hw : ∀ d ∈ tables_1, d.before a0 Z = true) : (Jvm.Cond.castable "[Lcom/example/ship_shore_exchange/shipshoreexchange/model/Role;" "java/lang/Cloneable").before a0 Z = true := hw _ (List.mem_of_getElem? (i := 47) rfl)
theorem ow48 {Z : State} {a0 : Array Value} (hw : ∀ d ∈ tables_1, d.before a0 Z = true) : (Jvm.Cond.laysStatic "com/example/ship_shore_exchange/shipshoreexchange/model/Role" "MSI" "Lcom/example/ship_shore_exchange/shipshoreexchange/model/Role;").before a0 Z = true := hw _ (List.mem_of_getElem? (i := 48) rfl)
theorem ow50 {Z : State} {a0 : Array Value} (hw : ∀ d ∈ tables_1, d.before a0 Z = true) : (Jvm.Cond.classLink "com/example/ship_shore_exchange/shipshoreexchange/model/Role" (15 : Nat) "[Lcom/example/ship_shore_exchange/shipshoreexchange/model/Role;").before a0 Z = true := hw _ (List.mem_of_getElem? (i := 50) rfl)
theorem ow52 {Z : State} {a0 : Array Value} (hw : ∀ d ∈ tables_1, d.before a0 Z = true) : (Jvm.Cond.fieldLink "com/example/ship_shore_exchange/shipshoreexchange/model/Role" (29 : Nat) "com/example/ship_shore_exchange/shipshoreexchange/model/Role" "text" "Ljava/lang/String;").before a0 Z = true := hw _ (List.mem_of_getElem? (i := 52) rfl)
theorem ow54 {Z : State} {a0 : Array Value} (hw : ∀ d ∈ tables_1, d.before a0 Z = true) : (Jvm.Cond.methodLink "com/example/ship_shore_exchange/shipshoreexchange/model/Role" (37 : Nat) ({ cls := "java/lang/String", name := "equals", desc := "(Ljava/lang/Object;)Z" } : Jvm.MethodName)).before a0 Z = true := hw _ (List.mem_of_getElem? (i := 54) rfl)
theorem ow55 {Z : State} {a0 : Array Value} (hw : ∀ d ∈ tables_1, d.before a0 Z = true) : (Jvm.Cond.declares ({ cls := "java/lang/String", name := "equals", desc := "(Ljava/lang/Object;)Z" } : Jvm.MethodName)).before a0 Z = true := hw _ (List.mem_of_getElem? (i := 55) rfl)
theorem ow56 {Z : State} {a0 : Array Value} (hw : ∀ d ∈ tables_1, d.before a0 Z = true) : (Jvm.Cond.instanceMethod ({ cls := "java/lang/String", name := "equals", desc := "(Ljava/lang/Object;)Z" } : Jvm.MethodName)).before a0 Z = true := hw _ (List.mem_of_getElem? (i := 56) rfl)
theorem ow57 {Z : State} {a0 : Array Value} (hw : ∀ d ∈ tables_1, d.before a0 Z = true) : (Jvm.Cond.selects "java/lang/String" ({ cls := "java/lang/String", name := "equals", desc := "(Ljava/lang/Object;)Z" } : Jvm.MethodName) ({ cls := "java/lang/String", name := "equals", desc := "(Ljava/lang/Object;)Z" } : Jvm.MethodName)).before a0 Z = true := hw _ (List.mem_of_getElem? (i := 57) rfl)
theorem ow58 {Z : State} {a0 : Array Value} (hw : ∀ d ∈ tables_1, d.before a0 Z = true) : (Jvm.Cond.code ({ cls := "java/lang/String", name := "equals", desc := "(Ljava/lang/Object;)Z" } : Jvm.MethodName) jdk_42_method_66_code (3 : Nat) (Option.some Jvm.ClassFile.FieldType.boolean)).before a0 Z = true := hw _ (List.mem_of_getElem? (i := 58) rfl)
theorem ow59 {Z : State} {a0 : Array Value} (hw : ∀ d ∈ tables_1, d.before a0 Z = true) : (Jvm.Cond.classLink "java/lang/String" (10 : Nat) "java/lang/String").before a0 Z = true := hw _ (List.mem_of_getElem? (i := 59) rfl)
theorem ow60 {Z : State} {a0 : Array Value} (hw : ∀ d ∈ tables_1, d.before a0 Z = true) : (Jvm.Cond.methodLink "java/lang/String" (541 : Nat) ({ cls := "java/lang/StringLatin1", name := "equals", desc := "([B[B)Z" } : Jvm.MethodName)).before a0 Z = true := hw _ (List.mem_of_getElem? (i := 60) rfl)
theorem ow61 {Z : State} {a0 : Array Value} (hw : ∀ d ∈ tables_1, d.before a0 Z = true) : (Jvm.Cond.static ({ cls := "java/lang/StringLatin1", name := "equals", desc := "([B[B)Z" } : Jvm.MethodName)).before a0 Z = true := hw _ (List.mem_of_getElem? (i := 61) rfl)
theorem ow62 {Z : State} {a0 : Array Value} (hw : ∀ d ∈ tables_1, d.before a0 Z = true) : (Jvm.Cond.initialized "java/lang/StringLatin1").before a0 Z = true := hw _ (List.mem_of_getElem? (i := 62) rfl)
theorem ow63 {Z : State} {a0 : Array Value} (hw : ∀ d ∈ tables_1, d.before a0 Z = true) : (Jvm.Cond.code ({ cls := "java/lang/StringLatin1", name := "equals", desc := "([B[B)Z" } : Jvm.MethodName) jdk_43_method_13_code (3 : Nat) (Option.some Jvm.ClassFile.FieldType.boolean)).before a0 Z = true := hw _ (List.mem_of_getElem? (i := 63) rfl)
theorem ow64 {Z : State} {a0 : Array Value} (hw : ∀ d ∈ tables_1, d.before a0 Z = true) : (Jvm.Cond.methodLink "com/example/ship_shore_exchange/shipshoreexchange/model/RoleFromTextPinLaw" (25 : Nat) ({ cls := "com/example/ship_shore_exchange/shipshoreexchange/model/Role", name := "text", desc := "()Ljava/lang/String;" } : Jvm.MethodName)).before a0 Z = true := hw _ (List.mem_of_getElem? (i := 64) rfl)
theorem ow65 {Z : State} {a0 : Array Value} (hw : ∀ d ∈ tables_1, d.before a0 Z = true) : (Jvm.Cond.declares ({ cls := "com/example/ship_shore_exchange/shipshoreexchange/model/Role", name := "text", desc := "()Ljava/lang/String;" } : Jvm.MethodName)).before a0 Z = true := hw _ (List.mem_of_getElem? (i := 65) rfl)
theorem ow66 {Z : State} {a0 : Array Value} (hw : ∀ d ∈ tables_1, d.before a0 Z = true) : (Jvm.Cond.instanceMethod ({ cls := "com/example/ship_shore_exchange/shipshoreexchange/model/Role", name := "text", desc := "()Ljava/lang/String;" } : Jvm.MethodName)).before a0 Z = true := hw _ (List.mem_of_getElem? (i := 66) rfl)
theorem ow67 {Z : State} {a0 : Array Value} (hw : ∀ d ∈ tables_1, d.before a0 Z = true) : (Jvm.Cond.selects "com/example/ship_shore_exchange/shipshoreexchange/model/Role" ({ cls := "com/example/ship_shore_exchange/shipshoreexchange/model/Role", name := "text", desc := "()Ljava/lang/String;" } : Jvm.MethodName) ({ cls := "com/example/ship_shore_exchange/shipshoreexchange/model/Role", name := "text", desc := "()Ljava/lang/String;" } : Jvm.MethodName)).before a0 Z = true := hw _ (List.mem_of_getElem? (i := 67) rfl)
theorem ow68 {Z : State} {a0 : Array Value} (hw : ∀ d ∈ tables_1, d.before a0 Z = true) : (Jvm.Cond.code ({ cls := "com/example/ship_shore_exchange/shipshoreexchange/model/Role", name := "text", desc := "()Ljava/lang/String;" } : Jvm.MethodName) prog_10_method_4_code (1 : Nat) (Option.some (Jvm.ClassFile.FieldType.object "java/lang/String"))).before a0 Z = true := hw _ (List.mem_of_getElem? (i := 68) rfl)
theorem ow69 {Z : State} {a0 : Array Value} (hw : ∀ d ∈ tables_1, d.before a0 Z = true) : (Jvm.Cond.methodLink "com/example/ship_shore_exchange/shipshoreexchange/model/RoleFromTextPinLaw" (29 : Nat) ({ cls := "java/lang/String", name := "equals", desc := "(Ljava/lang/Object;)Z" } : Jvm.MethodName)).before a0 Z = true := hw _ (List.mem_of_getElem? (i := 69) rfl)
theorem ow70 {Z : State} {a0 : Array Value} (hw : ∀ d ∈ tables_1, d.before a0 Z = true) : (Jvm.Cond.fieldLink "com/example/ship_shore_exchange/shipshoreexchange/model/RoleFromTextPinLaw" (12 : Nat) "com/example/ship_shore_exchange/shipshoreexchange/model/Role" "MSI" "Lcom/example/ship_shore_exchange/shipshoreexchange/model/Role;").before a0 Z = true := hw _ (List.mem_of_getElem? (i := 70) rfl)
theorem own_eqR {args : Array Value} {s : State} {t u : Term} {a : Addr} (hu : u.eval args s none [] s = some (.ref a)) (h : (Jvm.Cond.eq t u).value args s none s [] = some true) : t.eval args s none [] s = some (.ref a) := by
  obtain ⟨x, y, hx, hy, -, hk⟩ := cmp_v (Or.inl h)
  cases hu.symm.trans hy
  have hr : x.isRef = true := hk.2
  have e := gotT (eq_R hx hy hr rfl) h
  rw [hx, e]
theorem own_len {args : Array Value} {s : State} {t : Term} {x : Addr} {cl : Cell} {k : Int32} (ht : t.eval args s none [] s = some (.ref x)) (hc : s.heap[x]? = some cl) (h : (Term.length t).eval args s none [] s = some (.int k)) : cl.slots.size < 2 ^ 31 ∧ cl.slots.size.toInt32 = k := by
  simp only [Term.eval, ht, Option.bind_eq_bind, Option.bind_some] at h
  cases ha : s.arrayAt? x with
  | none => simp [ha] at h
  | some c' =>
    have hcc := (State.arrayAt?_spec ha).1
    cases hc.symm.trans hcc
    simp only [ha, Option.bind_some] at h
    split at h
    · rename_i hlt
      exact ⟨hlt, by simpa using h⟩
    · simp at h

theorem own_and1 (k : Int32) : k &&& 1 = 0 ∨ k &&& 1 = 1 := and_one k
theorem own_neqI {args : Array Value} {s : State} {t : Term} {x k : Int32} (ht : t.eval args s none [] s = some (.int x)) (h : (Jvm.Cond.not (Jvm.Cond.eq t (.int k))).value args s none s [] = some true) : ¬ x = k := fun q => by
  have h1 := not_v h
  have h2 := eq_i (a := t) (b := .int k) ht (show (Term.int k).eval args s none [] s = some (.int k) from rfl) (congrArg Value.int q)
  rw [h2] at h1
  exact Bool.noConfusion (Option.some.inj h1)
theorem d5_0 : decode jdk_52_method_21_code 0 = .ok (.iconst 0, 1) := by decide +kernel
theorem d5_1 : decode jdk_52_method_21_code 1 = .ok (.istore 5, 2) := by decide +kernel
theorem d5_3 : decode jdk_52_method_21_code 3 = .ok (.iload 5, 2) := by decide +kernel
theorem d5_5 : decode jdk_52_method_21_code 5 = .ok (.iload 4, 2) := by decide +kernel
theorem d5_7 : decode jdk_52_method_21_code 7 = .ok (.if_icmp .ge 37, 3) := by decide +kernel
theorem d5_10 : decode jdk_52_method_21_code 10 = .ok (.aload_n 0, 1) := by decide +kernel
theorem d5_11 : decode jdk_52_method_21_code 11 = .ok (.iload_n 1, 1) := by decide +kernel
theorem d5_12 : decode jdk_52_method_21_code 12 = .ok (.caload, 1) := by decide +kernel
theorem d5_13 : decode jdk_52_method_21_code 13 = .ok (.istore 6, 2) := by decide +kernel
theorem d5_15 : decode jdk_52_method_21_code 15 = .ok (.iload 6, 2) := by decide +kernel
theorem d5_17 : decode jdk_52_method_21_code 17 = .ok (.sipush 255, 3) := by decide +kernel
theorem d5_20 : decode jdk_52_method_21_code 20 = .ok (.if_icmp .le 6, 3) := by decide +kernel
theorem d5_26 : decode jdk_52_method_21_code 26 = .ok (.aload_n 2, 1) := by decide +kernel
theorem d5_27 : decode jdk_52_method_21_code 27 = .ok (.iload_n 3, 1) := by decide +kernel
theorem d5_28 : decode jdk_52_method_21_code 28 = .ok (.iload 6, 2) := by decide +kernel
theorem d5_30 : decode jdk_52_method_21_code 30 = .ok (.i2b, 1) := by decide +kernel
theorem d5_31 : decode jdk_52_method_21_code 31 = .ok (.bastore, 1) := by decide +kernel
theorem d5_32 : decode jdk_52_method_21_code 32 = .ok (.iinc 1 1, 3) := by decide +kernel
theorem d5_35 : decode jdk_52_method_21_code 35 = .ok (.iinc 3 1, 3) := by decide +kernel
theorem d5_38 : decode jdk_52_method_21_code 38 = .ok (.iinc 5 1, 3) := by decide +kernel
theorem d5_41 : decode jdk_52_method_21_code 41 = .ok (.goto (-38), 3) := by decide +kernel
theorem d5_44 : decode jdk_52_method_21_code 44 = .ok (.iload 4, 2) := by decide +kernel
theorem d5_46 : decode jdk_52_method_21_code 46 = .ok (.ireturn, 1) := by decide +kernel
theorem pn_5 : plainName "java/lang/StringUTF16" = true := by first | (simp [plainName, overriddenIn]; done) | decide +kernel
theorem ef_cp2A (m : MethodId) (ca : Addr) (da : Addr) (kc : ClassId) (kd : ClassId) : entryFrame m #[(.ref ca), (.int (0 : Int32)), (.ref da), (.int (0 : Int32)), (.int (3 : Int32))] 7 = mkF m 0 #[.val (.ref ca), .val (.int (0 : Int32)), .val (.ref da), .val (.int (0 : Int32)), .val (.int (3 : Int32)), .unset, .unset] [] := by first | (simp [entryFrame, mkF, argsToLocals, Value.category]; done) | rfl | (rcases ref_cases hrf with rfl | ⟨q, rfl⟩ <;> rfl)
def Q_cp2A (Z : State) (ca : Addr) (da : Addr) (kc : ClassId) (kd : ClassId) (h0 : Heap) (n0 : Nat) (v : Option Value) (h : Heap) (L : List Loc) : Prop := v = some (.int (3 : Int32)) ∧ Fr n0 L ∧ Old Z n0 h ∧ Keep h0 h [da] ∧ Arv Z h da kd .byte (3 : Int32) [(.int (109 : Int32)), (.int (115 : Int32)), (.int (105 : Int32))] (.int (0 : Int32))
set_option maxRecDepth 65536 in
set_option maxHeartbeats 40000000 in
theorem cp2A (l : Launch) (Z : State) (a0 : Array Value) (hw : ∀ d ∈ tables_1, d.before a0 Z = true) (ws : List Jvm.Cond) (ca : Addr) (da : Addr) (kc : ClassId) (kd : ClassId) (h0 : Heap) (n0 : Nat) (O0 : Old Z n0 h0) (V_c : Arv Z h0 ca kc .char (3 : Int32) [(.int (109 : Int32)), (.int (115 : Int32)), (.int (105 : Int32))] (.int (0 : Int32))) (V_d : Arv Z h0 da kd .byte (3 : Int32) [(.int (0 : Int32)), (.int (0 : Int32)), (.int (0 : Int32))] (.int (0 : Int32))) (g_da : n0 ≤ da) (ne_ca_da : ca ≠ da) :
    MetFree l oM0 (head1 (Jvm.Cond.code oM0 jdk_52_method_21_code 7 (some .int) :: ws) ({ frames := 0, cells := 0, slots := 0, locals := 0 } : Room)) (fun aq_ U => aq_ = #[(.ref ca), (.int (0 : Int32)), (.ref da), (.int (0 : Int32)), (.int (3 : Int32))] ∧ Z.Warmed39 U.vm ∧ U.heap = h0) (fun _ _ _ _ _ => True) (fun _ U o U' => ∃ v L, o = .returned v ∧ Q_cp2A Z ca da kc kd h0 n0 v U'.heap L ∧ FrameEnd U o U' L ({ frames := 0, cells := 0, slots := 0, locals := 0 } : Room).cells ({ frames := 0, cells := 0, slots := 0, locals := 0 } : Room).slots) := by
  refine MetFree.of_bodySF (plainFor_of_name pn_5) hisR ?_
  intro p e s m args below meth c s₁ Bd hml0 hP hK
  obtain ⟨rfl, hZ, hh⟩ := hP
  have hx := Bd.exec
  have hby := Bd.bytes
  have hml : c.maxLocals = 7 := hml0
  have hown : s.vm.findClass "java/lang/StringUTF16" = some m.cls := findClass_of_methodNamed Bd.named
  have hnm := (name_of_methodNamed Bd.named Bd.method).1
  have X0 : Stand p l e ({ frames := 0, cells := 0, slots := 0, locals := 0 } : Room) s m #[(.ref ca), (.int (0 : Int32)), (.ref da), (.int (0 : Int32)), (.int (3 : Int32))] below meth c s₁ [] 0 0 := Stand.of_body Bd
  have e0 : s₁.heap = h0 := by rw [← hh, Bd.state]; rfl
  have N0 := Fr.nil n0
  show own_Ends p.tables e below (own_P s (Q_cp2A Z ca da kc kd h0 n0) ({ frames := 0, cells := 0, slots := 0, locals := 0 } : Room).cells ({ frames := 0, cells := 0, slots := 0, locals := 0 } : Room).slots) _
  refine own_cast (ef_cp2A m ca da kc kd) ?_
  have K0 := Keep.refl h0 [da]
  show own_Ends _ _ _ _ (s₁.setTop (mkF m 0 #[.val (.ref ca), .val (.int 0), .val (.ref da), .val (.int 0), .val (.int 3), .unset, .unset] []))
  refine own_to (fun _ kont => XS.iconst X0.here hx rfl (hb hby d5_0) kont) ?_
  show own_Ends _ _ _ _ (s₁.setTop (mkF m 1 #[.val (.ref ca), .val (.int 0), .val (.ref da), .val (.int 0), .val (.int 3), .unset, .unset] [(.int 0)]))
  refine own_to (fun _ kont => XS.istore X0.here hx rfl (hb hby d5_1) rfl (l' := #[.val (.ref ca), .val (.int (0 : Int32)), .val (.ref da), .val (.int (0 : Int32)), .val (.int (3 : Int32)), .val (.int (0 : Int32)), .unset]) rfl kont) ?_
  show own_Ends _ _ _ _ (s₁.setTop (mkF m 3 #[.val (.ref ca), .val (.int 0), .val (.ref da), .val (.int 0), .val (.int 3), .val (.int 0), .unset] []))
  refine own_to (fun _ kont => XS.iload X0.here hx rfl (hb hby d5_3) rfl kont) ?_
  show own_Ends _ _ _ _ (s₁.setTop (mkF m 5 #[.val (.ref ca), .val (.int 0), .val (.ref da), .val (.int 0), .val (.int 3), .val (.int 0), .unset] [(.int 0)]))
  refine own_to (fun _ kont => XS.iload X0.here hx rfl (hb hby d5_5) rfl kont) ?_
  show own_Ends _ _ _ _ (s₁.setTop (mkF m 7 #[.val (.ref ca), .val (.int 0), .val (.ref da), .val (.int 0), .val (.int 3), .val (.int 0), .unset] [(.int 3), (.int 0)]))
  refine own_to (fun _ kont => XS.icmpNo X0.here hx rfl (hb hby d5_7) rfl (tlt (by decide)).2.1 kont) ?_
  show own_Ends _ _ _ _ (s₁.setTop (mkF m 10 #[.val (.ref ca), .val (.int 0), .val (.ref da), .val (.int 0), .val (.int 3), .val (.int 0), .unset] []))
  refine own_to (fun _ kont => XS.aloadN X0.here hx rfl (hb hby d5_10) rfl rfl kont) ?_
  show own_Ends _ _ _ _ (s₁.setTop (mkF m 11 #[.val (.ref ca), .val (.int 0), .val (.ref da), .val (.int 0), .val (.int 3), .val (.int 0), .unset] [(.ref ca)]))
  refine own_to (fun _ kont => XS.iloadN X0.here hx rfl (hb hby d5_11) rfl kont) ?_
  show own_Ends _ _ _ _ (s₁.setTop (mkF m 12 #[.val (.ref ca), .val (.int 0), .val (.ref da), .val (.int 0), .val (.int 3), .val (.int 0), .unset] [(.int 0), (.ref ca)]))
  obtain ⟨cl1, Ar1, q1, S1, M1, H1, G1⟩ := id V_c
  have hin1 : ¬ ((0 : Int32) < 0 ∨ cl1.slots.size ≤ ((0 : Int32)).toNatClampNeg) := inb_of S1 ⟨by decide, by decide⟩
  have hat1 : cl1.slots[((0 : Int32)).toNatClampNeg]? = some (.int (109 : Int32)) := Has.at H1 hin1 rfl
  refine own_to (fun _ kont => X0.caload hx (j := (0 : Int32)) (v := (.int (109 : Int32))) (by rw [e0]; exact Ar1.1) (State.isArrayOf_alike hZ.alike Ar1.2.1) Ar1.2.2 hin1 hat1 (g := (mkF m 12 #[.val (.ref ca), .val (.int (0 : Int32)), .val (.ref da), .val (.int (0 : Int32)), .val (.int (3 : Int32)), .val (.int (0 : Int32)), .unset] [(.int (0 : Int32)), (.ref ca)])) rfl rfl (hb hby d5_12) _ kont) ?_
  show own_Ends _ _ _ _ (s₁.setTop (mkF m 13 #[.val (.ref ca), .val (.int 0), .val (.ref da), .val (.int 0), .val (.int 3), .val (.int 0), .unset] [(.int 109)]))
  refine own_to (fun _ kont => XS.istore X0.here hx rfl (hb hby d5_13) rfl (l' := #[.val (.ref ca), .val (.int (0 : Int32)), .val (.ref da), .val (.int (0 : Int32)), .val (.int (3 : Int32)), .val (.int (0 : Int32)), .val (.int (109 : Int32))]) rfl kont) ?_
  show own_Ends _ _ _ _ (s₁.setTop (mkF m 15 #[.val (.ref ca), .val (.int 0), .val (.ref da), .val (.int 0), .val (.int 3), .val (.int 0), .val (.int 109)] []))
  refine own_to (fun _ kont => XS.iload X0.here hx rfl (hb hby d5_15) rfl kont) ?_
  show own_Ends _ _ _ _ (s₁.setTop (mkF m 17 #[.val (.ref ca), .val (.int 0), .val (.ref da), .val (.int 0), .val (.int 3), .val (.int 0), .val (.int 109)] [(.int 109)]))
  refine own_to (fun _ kont => XS.sipush X0.here hx rfl (hb hby d5_17) kont) ?_
  show own_Ends _ _ _ _ (s₁.setTop (mkF m 20 #[.val (.ref ca), .val (.int 0), .val (.ref da), .val (.int 0), .val (.int 3), .val (.int 0), .val (.int 109)] [(.int 255), (.int 109)]))
  refine own_to (fun _ kont => XS.icmpYes X0.here hx rfl (pc0 := 20) (pc' := 26) rfl (hb hby d5_20) rfl (flt (by decide)).2.2.2 (by decide) (by decide) kont) ?_
  show own_Ends _ _ _ _ (s₁.setTop (mkF m 26 #[.val (.ref ca), .val (.int 0), .val (.ref da), .val (.int 0), .val (.int 3), .val (.int 0), .val (.int 109)] []))
  refine own_to (fun _ kont => XS.aloadN X0.here hx rfl (hb hby d5_26) rfl rfl kont) ?_
  show own_Ends _ _ _ _ (s₁.setTop (mkF m 27 #[.val (.ref ca), .val (.int 0), .val (.ref da), .val (.int 0), .val (.int 3), .val (.int 0), .val (.int 109)] [(.ref da)]))
  refine own_to (fun _ kont => XS.iloadN X0.here hx rfl (hb hby d5_27) rfl kont) ?_
  show own_Ends _ _ _ _ (s₁.setTop (mkF m 28 #[.val (.ref ca), .val (.int 0), .val (.ref da), .val (.int 0), .val (.int 3), .val (.int 0), .val (.int 109)] [(.int 0), (.ref da)]))
  refine own_to (fun _ kont => XS.iload X0.here hx rfl (hb hby d5_28) rfl kont) ?_
  show own_Ends _ _ _ _ (s₁.setTop (mkF m 30 #[.val (.ref ca), .val (.int 0), .val (.ref da), .val (.int 0), .val (.int 3), .val (.int 0), .val (.int 109)] [(.int 109), (.int 0), (.ref da)]))
  refine own_to (fun _ kont => XS.i2b X0.here hx rfl (hb hby d5_30) rfl kont) ?_
  show own_Ends _ _ _ _ (s₁.setTop (mkF m 31 #[.val (.ref ca), .val (.int 0), .val (.ref da), .val (.int 0), .val (.int 3), .val (.int 0), .val (.int 109)] [(.int 109), (.int 0), (.ref da)]))
  obtain ⟨cl2, Ar2, q2, S2, M2, H2, G2⟩ := id V_d
  have hin2 : ¬ ((0 : Int32) < 0 ∨ cl2.slots.size ≤ ((0 : Int32)).toNatClampNeg) := inb_of S2 ⟨by decide, by decide⟩
  obtain ⟨T2, h2, X2, e2, W2, st2⟩ := stB X0 hx hZ e0 Ar2 (j := (0 : Int32)) hin2 (g := (mkF m 31 #[.val (.ref ca), .val (.int (0 : Int32)), .val (.ref da), .val (.int (0 : Int32)), .val (.int (3 : Int32)), .val (.int (0 : Int32)), .val (.int (109 : Int32))] [(.int (109 : Int32)), (.int (0 : Int32)), (.ref da)])) rfl rfl (hb hby d5_31)
  have Vs2 : Arv Z h2 da kd .byte (3 : Int32) [(.int (109 : Int32)), (.int (0 : Int32)), (.int (0 : Int32))] (.int (0 : Int32)) := Arv.set Ar2 q2 S2 M2 H2 G2 (fits_nar_byte _) W2 0 rfl (own_lt rfl)
  refine own_to st2 ?_
  have O2 := O0.wr W2 g_da
  have N2 := Fr.snoc X2 N0 g_da
  have K2 := K0.wr W2 (Or.inl (List.mem_of_getElem? (i := 0) rfl))
  show own_Ends _ _ _ _ (T2.setTop (mkF m 32 #[.val (.ref ca), .val (.int 0), .val (.ref da), .val (.int 0), .val (.int 3), .val (.int 0), .val (.int 109)] []))
  refine own_to (fun _ kont => XS.iinc X2.here hx rfl (hb hby d5_32) rfl (l' := #[.val (.ref ca), .val (.int (1 : Int32)), .val (.ref da), .val (.int (0 : Int32)), .val (.int (3 : Int32)), .val (.int (0 : Int32)), .val (.int (109 : Int32))]) rfl kont) ?_
  show own_Ends _ _ _ _ (T2.setTop (mkF m 35 #[.val (.ref ca), .val (.int 1), .val (.ref da), .val (.int 0), .val (.int 3), .val (.int 0), .val (.int 109)] []))
  refine own_to (fun _ kont => XS.iinc X2.here hx rfl (hb hby d5_35) rfl (l' := #[.val (.ref ca), .val (.int (1 : Int32)), .val (.ref da), .val (.int (1 : Int32)), .val (.int (3 : Int32)), .val (.int (0 : Int32)), .val (.int (109 : Int32))]) rfl kont) ?_
  show own_Ends _ _ _ _ (T2.setTop (mkF m 38 #[.val (.ref ca), .val (.int 1), .val (.ref da), .val (.int 1), .val (.int 3), .val (.int 0), .val (.int 109)] []))
  refine own_to (fun _ kont => XS.iinc X2.here hx rfl (hb hby d5_38) rfl (l' := #[.val (.ref ca), .val (.int (1 : Int32)), .val (.ref da), .val (.int (1 : Int32)), .val (.int (3 : Int32)), .val (.int (1 : Int32)), .val (.int (109 : Int32))]) rfl kont) ?_
  show own_Ends _ _ _ _ (T2.setTop (mkF m 41 #[.val (.ref ca), .val (.int 1), .val (.ref da), .val (.int 1), .val (.int 3), .val (.int 1), .val (.int 109)] []))
  refine own_to (fun _ kont => XS.goto X2.here hx rfl (pc0 := 41) (pc' := 3) rfl (hb hby d5_41) (by decide) (by decide) kont) ?_
  show own_Ends _ _ _ _ (T2.setTop (mkF m 3 #[.val (.ref ca), .val (.int 1), .val (.ref da), .val (.int 1), .val (.int 3), .val (.int 1), .val (.int 109)] []))
  refine own_to (fun _ kont => XS.iload X2.here hx rfl (hb hby d5_3) rfl kont) ?_
  show own_Ends _ _ _ _ (T2.setTop (mkF m 5 #[.val (.ref ca), .val (.int 1), .val (.ref da), .val (.int 1), .val (.int 3), .val (.int 1), .val (.int 109)] [(.int 1)]))
  refine own_to (fun _ kont => XS.iload X2.here hx rfl (hb hby d5_5) rfl kont) ?_
  show own_Ends _ _ _ _ (T2.setTop (mkF m 7 #[.val (.ref ca), .val (.int 1), .val (.ref da), .val (.int 1), .val (.int 3), .val (.int 1), .val (.int 109)] [(.int 3), (.int 1)]))
  refine own_to (fun _ kont => XS.icmpNo X2.here hx rfl (hb hby d5_7) rfl (tlt (by decide)).2.1 kont) ?_
  show own_Ends _ _ _ _ (T2.setTop (mkF m 10 #[.val (.ref ca), .val (.int 1), .val (.ref da), .val (.int 1), .val (.int 3), .val (.int 1), .val (.int 109)] []))
  refine own_to (fun _ kont => XS.aloadN X2.here hx rfl (hb hby d5_10) rfl rfl kont) ?_
  show own_Ends _ _ _ _ (T2.setTop (mkF m 11 #[.val (.ref ca), .val (.int 1), .val (.ref da), .val (.int 1), .val (.int 3), .val (.int 1), .val (.int 109)] [(.ref ca)]))
  refine own_to (fun _ kont => XS.iloadN X2.here hx rfl (hb hby d5_11) rfl kont) ?_
  show own_Ends _ _ _ _ (T2.setTop (mkF m 12 #[.val (.ref ca), .val (.int 1), .val (.ref da), .val (.int 1), .val (.int 3), .val (.int 1), .val (.int 109)] [(.int 1), (.ref ca)]))
  obtain ⟨cl3, Ar3, q3, S3, M3, H3, G3⟩ := id (V_c.other W2 ne_ca_da)
  have hin3 : ¬ ((1 : Int32) < 0 ∨ cl3.slots.size ≤ ((1 : Int32)).toNatClampNeg) := inb_of S3 ⟨by decide, by decide⟩
  have hat3 : cl3.slots[((1 : Int32)).toNatClampNeg]? = some (.int (115 : Int32)) := Has.at H3 hin3 rfl
  refine own_to (fun _ kont => X2.caload hx (j := (1 : Int32)) (v := (.int (115 : Int32))) (by rw [e2]; exact Ar3.1) (State.isArrayOf_alike hZ.alike Ar3.2.1) Ar3.2.2 hin3 hat3 (g := (mkF m 12 #[.val (.ref ca), .val (.int (1 : Int32)), .val (.ref da), .val (.int (1 : Int32)), .val (.int (3 : Int32)), .val (.int (1 : Int32)), .val (.int (109 : Int32))] [(.int (1 : Int32)), (.ref ca)])) rfl rfl (hb hby d5_12) _ kont) ?_
  show own_Ends _ _ _ _ (T2.setTop (mkF m 13 #[.val (.ref ca), .val (.int 1), .val (.ref da), .val (.int 1), .val (.int 3), .val (.int 1), .val (.int 109)] [(.int 115)]))
  refine own_to (fun _ kont => XS.istore X2.here hx rfl (hb hby d5_13) rfl (l' := #[.val (.ref ca), .val (.int (1 : Int32)), .val (.ref da), .val (.int (1 : Int32)), .val (.int (3 : Int32)), .val (.int (1 : Int32)), .val (.int (115 : Int32))]) rfl kont) ?_
  show own_Ends _ _ _ _ (T2.setTop (mkF m 15 #[.val (.ref ca), .val (.int 1), .val (.ref da), .val (.int 1), .val (.int 3), .val (.int 1), .val (.int 115)] []))
  refine own_to (fun _ kont => XS.iload X2.here hx rfl (hb hby d5_15) rfl kont) ?_
  show own_Ends _ _ _ _ (T2.setTop (mkF m 17 #[.val (.ref ca), .val (.int 1), .val (.ref da), .val (.int 1), .val (.int 3), .val (.int 1), .val (.int 115)] [(.int 115)]))
  refine own_to (fun _ kont => XS.sipush X2.here hx rfl (hb hby d5_17) kont) ?_
  show own_Ends _ _ _ _ (T2.setTop (mkF m 20 #[.val (.ref ca), .val (.int 1), .val (.ref da), .val (.int 1), .val (.int 3), .val (.int 1), .val (.int 115)] [(.int 255), (.int 115)]))
  refine own_to (fun _ kont => XS.icmpYes X2.here hx rfl (pc0 := 20) (pc' := 26) rfl (hb hby d5_20) rfl (flt (by decide)).2.2.2 (by decide) (by decide) kont) ?_
  show own_Ends _ _ _ _ (T2.setTop (mkF m 26 #[.val (.ref ca), .val (.int 1), .val (.ref da), .val (.int 1), .val (.int 3), .val (.int 1), .val (.int 115)] []))
  refine own_to (fun _ kont => XS.aloadN X2.here hx rfl (hb hby d5_26) rfl rfl kont) ?_
  show own_Ends _ _ _ _ (T2.setTop (mkF m 27 #[.val (.ref ca), .val (.int 1), .val (.ref da), .val (.int 1), .val (.int 3), .val (.int 1), .val (.int 115)] [(.ref da)]))
  refine own_to (fun _ kont => XS.iloadN X2.here hx rfl (hb hby d5_27) rfl kont) ?_
  show own_Ends _ _ _ _ (T2.setTop (mkF m 28 #[.val (.ref ca), .val (.int 1), .val (.ref da), .val (.int 1), .val (.int 3), .val (.int 1), .val (.int 115)] [(.int 1), (.ref da)]))
  refine own_to (fun _ kont => XS.iload X2.here hx rfl (hb hby d5_28) rfl kont) ?_
  show own_Ends _ _ _ _ (T2.setTop (mkF m 30 #[.val (.ref ca), .val (.int 1), .val (.ref da), .val (.int 1), .val (.int 3), .val (.int 1), .val (.int 115)] [(.int 115), (.int 1), (.ref da)]))
  refine own_to (fun _ kont => XS.i2b X2.here hx rfl (hb hby d5_30) rfl kont) ?_
  show own_Ends _ _ _ _ (T2.setTop (mkF m 31 #[.val (.ref ca), .val (.int 1), .val (.ref da), .val (.int 1), .val (.int 3), .val (.int 1), .val (.int 115)] [(.int 115), (.int 1), (.ref da)]))
  obtain ⟨cl4, Ar4, q4, S4, M4, H4, G4⟩ := id Vs2
  have hin4 : ¬ ((1 : Int32) < 0 ∨ cl4.slots.size ≤ ((1 : Int32)).toNatClampNeg) := inb_of S4 ⟨by decide, by decide⟩
  obtain ⟨T4, h4, X4, e4, W4, st4⟩ := stB X2 hx hZ e2 Ar4 (j := (1 : Int32)) hin4 (g := (mkF m 31 #[.val (.ref ca), .val (.int (1 : Int32)), .val (.ref da), .val (.int (1 : Int32)), .val (.int (3 : Int32)), .val (.int (1 : Int32)), .val (.int (115 : Int32))] [(.int (115 : Int32)), (.int (1 : Int32)), (.ref da)])) rfl rfl (hb hby d5_31)
  have Vs4 : Arv Z h4 da kd .byte (3 : Int32) [(.int (109 : Int32)), (.int (115 : Int32)), (.int (0 : Int32))] (.int (0 : Int32)) := Arv.set Ar4 q4 S4 M4 H4 G4 (fits_nar_byte _) W4 1 rfl (own_lt rfl)
  refine own_to st4 ?_
  have O4 := O2.wr W4 g_da
  have N4 := Fr.snoc X4 N2 g_da
  have K4 := K2.wr W4 (Or.inl (List.mem_of_getElem? (i := 0) rfl))
  show own_Ends _ _ _ _ (T4.setTop (mkF m 32 #[.val (.ref ca), .val (.int 1), .val (.ref da), .val (.int 1), .val (.int 3), .val (.int 1), .val (.int 115)] []))
  refine own_to (fun _ kont => XS.iinc X4.here hx rfl (hb hby d5_32) rfl (l' := #[.val (.ref ca), .val (.int (2 : Int32)), .val (.ref da), .val (.int (1 : Int32)), .val (.int (3 : Int32)), .val (.int (1 : Int32)), .val (.int (115 : Int32))]) rfl kont) ?_
  show own_Ends _ _ _ _ (T4.setTop (mkF m 35 #[.val (.ref ca), .val (.int 2), .val (.ref da), .val (.int 1), .val (.int 3), .val (.int 1), .val (.int 115)] []))
  refine own_to (fun _ kont => XS.iinc X4.here hx rfl (hb hby d5_35) rfl (l' := #[.val (.ref ca), .val (.int (2 : Int32)), .val (.ref da), .val (.int (2 : Int32)), .val (.int (3 : Int32)), .val (.int (1 : Int32)), .val (.int (115 : Int32))]) rfl kont) ?_
  show own_Ends _ _ _ _ (T4.setTop (mkF m 38 #[.val (.ref ca), .val (.int 2), .val (.ref da), .val (.int 2), .val (.int 3), .val (.int 1), .val (.int 115)] []))
  refine own_to (fun _ kont => XS.iinc X4.here hx rfl (hb hby d5_38) rfl (l' := #[.val (.ref ca), .val (.int (2 : Int32)), .val (.ref da), .val (.int (2 : Int32)), .val (.int (3 : Int32)), .val (.int (2 : Int32)), .val (.int (115 : Int32))]) rfl kont) ?_
  show own_Ends _ _ _ _ (T4.setTop (mkF m 41 #[.val (.ref ca), .val (.int 2), .val (.ref da), .val (.int 2), .val (.int 3), .val (.int 2), .val (.int 115)] []))
  refine own_to (fun _ kont => XS.goto X4.here hx rfl (pc0 := 41) (pc' := 3) rfl (hb hby d5_41) (by decide) (by decide) kont) ?_
  show own_Ends _ _ _ _ (T4.setTop (mkF m 3 #[.val (.ref ca), .val (.int 2), .val (.ref da), .val (.int 2), .val (.int 3), .val (.int 2), .val (.int 115)] []))
  refine own_to (fun _ kont => XS.iload X4.here hx rfl (hb hby d5_3) rfl kont) ?_
  show own_Ends _ _ _ _ (T4.setTop (mkF m 5 #[.val (.ref ca), .val (.int 2), .val (.ref da), .val (.int 2), .val (.int 3), .val (.int 2), .val (.int 115)] [(.int 2)]))
  refine own_to (fun _ kont => XS.iload X4.here hx rfl (hb hby d5_5) rfl kont) ?_
  show own_Ends _ _ _ _ (T4.setTop (mkF m 7 #[.val (.ref ca), .val (.int 2), .val (.ref da), .val (.int 2), .val (.int 3), .val (.int 2), .val (.int 115)] [(.int 3), (.int 2)]))
  refine own_to (fun _ kont => XS.icmpNo X4.here hx rfl (hb hby d5_7) rfl (tlt (by decide)).2.1 kont) ?_
  show own_Ends _ _ _ _ (T4.setTop (mkF m 10 #[.val (.ref ca), .val (.int 2), .val (.ref da), .val (.int 2), .val (.int 3), .val (.int 2), .val (.int 115)] []))
  refine own_to (fun _ kont => XS.aloadN X4.here hx rfl (hb hby d5_10) rfl rfl kont) ?_
  show own_Ends _ _ _ _ (T4.setTop (mkF m 11 #[.val (.ref ca), .val (.int 2), .val (.ref da), .val (.int 2), .val (.int 3), .val (.int 2), .val (.int 115)] [(.ref ca)]))
  refine own_to (fun _ kont => XS.iloadN X4.here hx rfl (hb hby d5_11) rfl kont) ?_
  show own_Ends _ _ _ _ (T4.setTop (mkF m 12 #[.val (.ref ca), .val (.int 2), .val (.ref da), .val (.int 2), .val (.int 3), .val (.int 2), .val (.int 115)] [(.int 2), (.ref ca)]))
  obtain ⟨cl5, Ar5, q5, S5, M5, H5, G5⟩ := id ((V_c.other W2 ne_ca_da).other W4 ne_ca_da)
  have hin5 : ¬ ((2 : Int32) < 0 ∨ cl5.slots.size ≤ ((2 : Int32)).toNatClampNeg) := inb_of S5 ⟨by decide, by decide⟩
  have hat5 : cl5.slots[((2 : Int32)).toNatClampNeg]? = some (.int (105 : Int32)) := Has.at H5 hin5 rfl
  refine own_to (fun _ kont => X4.caload hx (j := (2 : Int32)) (v := (.int (105 : Int32))) (by rw [e4]; exact Ar5.1) (State.isArrayOf_alike hZ.alike Ar5.2.1) Ar5.2.2 hin5 hat5 (g := (mkF m 12 #[.val (.ref ca), .val (.int (2 : Int32)), .val (.ref da), .val (.int (2 : Int32)), .val (.int (3 : Int32)), .val (.int (2 : Int32)), .val (.int (115 : Int32))] [(.int (2 : Int32)), (.ref ca)])) rfl rfl (hb hby d5_12) _ kont) ?_
  show own_Ends _ _ _ _ (T4.setTop (mkF m 13 #[.val (.ref ca), .val (.int 2), .val (.ref da), .val (.int 2), .val (.int 3), .val (.int 2), .val (.int 115)] [(.int 105)]))
  refine own_to (fun _ kont => XS.istore X4.here hx rfl (hb hby d5_13) rfl (l' := #[.val (.ref ca), .val (.int (2 : Int32)), .val (.ref da), .val (.int (2 : Int32)), .val (.int (3 : Int32)), .val (.int (2 : Int32)), .val (.int (105 : Int32))]) rfl kont) ?_
  show own_Ends _ _ _ _ (T4.setTop (mkF m 15 #[.val (.ref ca), .val (.int 2), .val (.ref da), .val (.int 2), .val (.int 3), .val (.int 2), .val (.int 105)] []))
  refine own_to (fun _ kont => XS.iload X4.here hx rfl (hb hby d5_15) rfl kont) ?_
  show own_Ends _ _ _ _ (T4.setTop (mkF m 17 #[.val (.ref ca), .val (.int 2), .val (.ref da), .val (.int 2), .val (.int 3), .val (.int 2), .val (.int 105)] [(.int 105)]))
  refine own_to (fun _ kont => XS.sipush X4.here hx rfl (hb hby d5_17) kont) ?_
  show own_Ends _ _ _ _ (T4.setTop (mkF m 20 #[.val (.ref ca), .val (.int 2), .val (.ref da), .val (.int 2), .val (.int 3), .val (.int 2), .val (.int 105)] [(.int 255), (.int 105)]))
  refine own_to (fun _ kont => XS.icmpYes X4.here hx rfl (pc0 := 20) (pc' := 26) rfl (hb hby d5_20) rfl (flt (by decide)).2.2.2 (by decide) (by decide) kont) ?_
  show own_Ends _ _ _ _ (T4.setTop (mkF m 26 #[.val (.ref ca), .val (.int 2), .val (.ref da), .val (.int 2), .val (.int 3), .val (.int 2), .val (.int 105)] []))
  refine own_to (fun _ kont => XS.aloadN X4.here hx rfl (hb hby d5_26) rfl rfl kont) ?_
  show own_Ends _ _ _ _ (T4.setTop (mkF m 27 #[.val (.ref ca), .val (.int 2), .val (.ref da), .val (.int 2), .val (.int 3), .val (.int 2), .val (.int 105)] [(.ref da)]))
  refine own_to (fun _ kont => XS.iloadN X4.here hx rfl (hb hby d5_27) rfl kont) ?_
  show own_Ends _ _ _ _ (T4.setTop (mkF m 28 #[.val (.ref ca), .val (.int 2), .val (.ref da), .val (.int 2), .val (.int 3), .val (.int 2), .val (.int 105)] [(.int 2), (.ref da)]))
  refine own_to (fun _ kont => XS.iload X4.here hx rfl (hb hby d5_28) rfl kont) ?_
  show own_Ends _ _ _ _ (T4.setTop (mkF m 30 #[.val (.ref ca), .val (.int 2), .val (.ref da), .val (.int 2), .val (.int 3), .val (.int 2), .val (.int 105)] [(.int 105), (.int 2), (.ref da)]))
  refine own_to (fun _ kont => XS.i2b X4.here hx rfl (hb hby d5_30) rfl kont) ?_
  show own_Ends _ _ _ _ (T4.setTop (mkF m 31 #[.val (.ref ca), .val (.int 2), .val (.ref da), .val (.int 2), .val (.int 3), .val (.int 2), .val (.int 105)] [(.int 105), (.int 2), (.ref da)]))
  obtain ⟨cl6, Ar6, q6, S6, M6, H6, G6⟩ := id Vs4
  have hin6 : ¬ ((2 : Int32) < 0 ∨ cl6.slots.size ≤ ((2 : Int32)).toNatClampNeg) := inb_of S6 ⟨by decide, by decide⟩
  obtain ⟨T6, h6, X6, e6, W6, st6⟩ := stB X4 hx hZ e4 Ar6 (j := (2 : Int32)) hin6 (g := (mkF m 31 #[.val (.ref ca), .val (.int (2 : Int32)), .val (.ref da), .val (.int (2 : Int32)), .val (.int (3 : Int32)), .val (.int (2 : Int32)), .val (.int (105 : Int32))] [(.int (105 : Int32)), (.int (2 : Int32)), (.ref da)])) rfl rfl (hb hby d5_31)
  have Vs6 : Arv Z h6 da kd .byte (3 : Int32) [(.int (109 : Int32)), (.int (115 : Int32)), (.int (105 : Int32))] (.int (0 : Int32)) := Arv.set Ar6 q6 S6 M6 H6 G6 (fits_nar_byte _) W6 2 rfl (own_lt rfl)
  refine own_to st6 ?_
  have O6 := O4.wr W6 g_da
  have N6 := Fr.snoc X6 N4 g_da
  have K6 := K4.wr W6 (Or.inl (List.mem_of_getElem? (i := 0) rfl))
  show own_Ends _ _ _ _ (T6.setTop (mkF m 32 #[.val (.ref ca), .val (.int 2), .val (.ref da), .val (.int 2), .val (.int 3), .val (.int 2), .val (.int 105)] []))
  refine own_to (fun _ kont => XS.iinc X6.here hx rfl (hb hby d5_32) rfl (l' := #[.val (.ref ca), .val (.int (3 : Int32)), .val (.ref da), .val (.int (2 : Int32)), .val (.int (3 : Int32)), .val (.int (2 : Int32)), .val (.int (105 : Int32))]) rfl kont) ?_
  show own_Ends _ _ _ _ (T6.setTop (mkF m 35 #[.val (.ref ca), .val (.int 3), .val (.ref da), .val (.int 2), .val (.int 3), .val (.int 2), .val (.int 105)] []))
  refine own_to (fun _ kont => XS.iinc X6.here hx rfl (hb hby d5_35) rfl (l' := #[.val (.ref ca), .val (.int (3 : Int32)), .val (.ref da), .val (.int (3 : Int32)), .val (.int (3 : Int32)), .val (.int (2 : Int32)), .val (.int (105 : Int32))]) rfl kont) ?_
  show own_Ends _ _ _ _ (T6.setTop (mkF m 38 #[.val (.ref ca), .val (.int 3), .val (.ref da), .val (.int 3), .val (.int 3), .val (.int 2), .val (.int 105)] []))
  refine own_to (fun _ kont => XS.iinc X6.here hx rfl (hb hby d5_38) rfl (l' := #[.val (.ref ca), .val (.int (3 : Int32)), .val (.ref da), .val (.int (3 : Int32)), .val (.int (3 : Int32)), .val (.int (3 : Int32)), .val (.int (105 : Int32))]) rfl kont) ?_
  show own_Ends _ _ _ _ (T6.setTop (mkF m 41 #[.val (.ref ca), .val (.int 3), .val (.ref da), .val (.int 3), .val (.int 3), .val (.int 3), .val (.int 105)] []))
  refine own_to (fun _ kont => XS.goto X6.here hx rfl (pc0 := 41) (pc' := 3) rfl (hb hby d5_41) (by decide) (by decide) kont) ?_
  show own_Ends _ _ _ _ (T6.setTop (mkF m 3 #[.val (.ref ca), .val (.int 3), .val (.ref da), .val (.int 3), .val (.int 3), .val (.int 3), .val (.int 105)] []))
  refine own_to (fun _ kont => XS.iload X6.here hx rfl (hb hby d5_3) rfl kont) ?_
  show own_Ends _ _ _ _ (T6.setTop (mkF m 5 #[.val (.ref ca), .val (.int 3), .val (.ref da), .val (.int 3), .val (.int 3), .val (.int 3), .val (.int 105)] [(.int 3)]))
  refine own_to (fun _ kont => XS.iload X6.here hx rfl (hb hby d5_5) rfl kont) ?_
  show own_Ends _ _ _ _ (T6.setTop (mkF m 7 #[.val (.ref ca), .val (.int 3), .val (.ref da), .val (.int 3), .val (.int 3), .val (.int 3), .val (.int 105)] [(.int 3), (.int 3)]))
  refine own_to (fun _ kont => XS.icmpYes X6.here hx rfl (pc0 := 7) (pc' := 44) rfl (hb hby d5_7) rfl (flt (by decide)).2.1 (by decide) (by decide) kont) ?_
  show own_Ends _ _ _ _ (T6.setTop (mkF m 44 #[.val (.ref ca), .val (.int 3), .val (.ref da), .val (.int 3), .val (.int 3), .val (.int 3), .val (.int 105)] []))
  refine own_to (fun _ kont => XS.iload X6.here hx rfl (hb hby d5_44) rfl kont) ?_
  show own_Ends _ _ _ _ (T6.setTop (mkF m 46 #[.val (.ref ca), .val (.int 3), .val (.ref da), .val (.int 3), .val (.int 3), .val (.int 3), .val (.int 105)] [(.int 3)]))
  refine own_leave X6 (v := some (.int (3 : Int32))) (fun h => by rw [Bd.returns] at h; cases h) ?_ (by decide) (by decide) (fun fs hr => retOut X6 hx Bd.returns rfl (Or.inl ⟨rfl, Or.inl rfl, _, rfl⟩) (hb hby d5_46) hr)
  show Q_cp2A Z ca da kc kd h0 n0 _ T6.heap _
  rw [e6]
  exact ⟨rfl, N6, O6, K6, Vs6⟩
theorem d4_0 : decode jdk_52_method_16_code 0 = .ok (.iload_n 2, 1) := by decide +kernel
theorem d4_1 : decode jdk_52_method_16_code 1 = .ok (.newarray .byte, 2) := by decide +kernel
theorem d4_3 : decode jdk_52_method_16_code 3 = .ok (.astore_n 3, 1) := by decide +kernel
theorem d4_4 : decode jdk_52_method_16_code 4 = .ok (.aload_n 0, 1) := by decide +kernel
theorem d4_5 : decode jdk_52_method_16_code 5 = .ok (.iload_n 1, 1) := by decide +kernel
theorem d4_6 : decode jdk_52_method_16_code 6 = .ok (.aload_n 3, 1) := by decide +kernel
theorem d4_7 : decode jdk_52_method_16_code 7 = .ok (.iconst 0, 1) := by decide +kernel
theorem d4_8 : decode jdk_52_method_16_code 8 = .ok (.iload_n 2, 1) := by decide +kernel
theorem d4_9 : decode jdk_52_method_16_code 9 = .ok (.invokestatic 115, 3) := by decide +kernel
theorem d4_12 : decode jdk_52_method_16_code 12 = .ok (.istore 4, 2) := by decide +kernel
theorem d4_14 : decode jdk_52_method_16_code 14 = .ok (.iload 4, 2) := by decide +kernel
theorem d4_16 : decode jdk_52_method_16_code 16 = .ok (.iload_n 2, 1) := by decide +kernel
theorem d4_17 : decode jdk_52_method_16_code 17 = .ok (.if_icmp .eq 40, 3) := by decide +kernel
theorem d4_57 : decode jdk_52_method_16_code 57 = .ok (.aload_n 3, 1) := by decide +kernel
theorem d4_58 : decode jdk_52_method_16_code 58 = .ok (.areturn, 1) := by decide +kernel
theorem pn_4 : plainName "java/lang/StringUTF16" = true := by first | (simp [plainName, overriddenIn]; done) | decide +kernel
theorem pd_0 : parseMethodDescriptor "([CI[BII)I" = some ⟨[(.array .char), .int, (.array .byte), .int, .int], some .int⟩ := by decide +kernel
theorem ef_cp1A (m : MethodId) (ca : Addr) (kc : ClassId) : entryFrame m #[(.ref ca), (.int (0 : Int32)), (.int (3 : Int32))] 6 = mkF m 0 #[.val (.ref ca), .val (.int (0 : Int32)), .val (.int (3 : Int32)), .unset, .unset, .unset] [] := by first | (simp [entryFrame, mkF, argsToLocals, Value.category]; done) | rfl | (rcases ref_cases hrf with rfl | ⟨q, rfl⟩ <;> rfl)
def Q_cp1A (Z : State) (ca : Addr) (kc : ClassId) (h0 : Heap) (n0 : Nat) (v : Option Value) (h : Heap) (L : List Loc) : Prop := ∃ (b : Addr) (kb : ClassId), v = some (.ref b) ∧ n0 ≤ b ∧ h0.size ≤ b ∧ Fr n0 L ∧ Old Z n0 h ∧ Keep h0 h [] ∧ Arv Z h b kb .byte (3 : Int32) [(.int (109 : Int32)), (.int (115 : Int32)), (.int (105 : Int32))] (.int (0 : Int32))
set_option maxRecDepth 65536 in
set_option maxHeartbeats 40000000 in
theorem cp1A (l : Launch) (Z : State) (a0 : Array Value) (hw : ∀ d ∈ tables_1, d.before a0 Z = true) (ws : List Jvm.Cond) (ca : Addr) (kc : ClassId) (h0 : Heap) (n0 : Nat) (O0 : Old Z n0 h0) (V_c : Arv Z h0 ca kc .char (3 : Int32) [(.int (109 : Int32)), (.int (115 : Int32)), (.int (105 : Int32))] (.int (0 : Int32))) :
    MetFree l oM1 (head1 (Jvm.Cond.code oM1 jdk_52_method_16_code 6 (some (.array .byte)) :: ws) ({ frames := 1, cells := 1, slots := 3, locals := 18 } : Room)) (fun aq_ U => aq_ = #[(.ref ca), (.int (0 : Int32)), (.int (3 : Int32))] ∧ Z.Warmed39 U.vm ∧ U.heap = h0) (fun _ _ _ _ _ => True) (fun _ U o U' => ∃ v L, o = .returned v ∧ Q_cp1A Z ca kc h0 n0 v U'.heap L ∧ FrameEnd U o U' L ({ frames := 1, cells := 1, slots := 3, locals := 18 } : Room).cells ({ frames := 1, cells := 1, slots := 3, locals := 18 } : Room).slots) := by
  refine MetFree.of_bodySF (plainFor_of_name pn_4) hisR ?_
  intro p e s m args below meth c s₁ Bd hml0 hP hK
  obtain ⟨rfl, hZ, hh⟩ := hP
  have hx := Bd.exec
  have hby := Bd.bytes
  have hml : c.maxLocals = 6 := hml0
  have hown : s.vm.findClass "java/lang/StringUTF16" = some m.cls := findClass_of_methodNamed Bd.named
  have hnm := (name_of_methodNamed Bd.named Bd.method).1
  have X0 : Stand p l e ({ frames := 1, cells := 1, slots := 3, locals := 18 } : Room) s m #[(.ref ca), (.int (0 : Int32)), (.int (3 : Int32))] below meth c s₁ [] 0 0 := Stand.of_body Bd
  have e0 : s₁.heap = h0 := by rw [← hh, Bd.state]; rfl
  have N0 := Fr.nil n0
  show own_Ends p.tables e below (own_P s (Q_cp1A Z ca kc h0 n0) ({ frames := 1, cells := 1, slots := 3, locals := 18 } : Room).cells ({ frames := 1, cells := 1, slots := 3, locals := 18 } : Room).slots) _
  refine own_cast (ef_cp1A m ca kc) ?_
  have K0 := Keep.refl h0 []
  show own_Ends _ _ _ _ (s₁.setTop (mkF m 0 #[.val (.ref ca), .val (.int 0), .val (.int 3), .unset, .unset, .unset] []))
  refine own_to (fun _ kont => XS.iloadN X0.here hx rfl (hb hby d4_0) rfl kont) ?_
  show own_Ends _ _ _ _ (s₁.setTop (mkF m 1 #[.val (.ref ca), .val (.int 0), .val (.int 3), .unset, .unset, .unset] [(.int 3)]))
  obtain ⟨T1, h1, k1, X1, e1, E1, A1, st1⟩ := newP X0 hx hZ (aty := .byte) (ow19 hw) e0 (g := (mkF m 1 #[.val (.ref ca), .val (.int (0 : Int32)), .val (.int (3 : Int32)), .unset, .unset, .unset] [(.int (3 : Int32))])) rfl (hb hby d4_1) rfl (by decide) (cap := 3) (by decide) (by decide) (by decide) (by decide)
  obtain ⟨b1, g1⟩ : ∃ z, z = h0.size := ⟨_, rfl⟩
  rw [← g1] at A1 st1
  have ne_ca_b1 : ca ≠ b1 := Nat.ne_of_lt (Nat.lt_of_lt_of_le V_c.lt (Nat.le_of_eq g1.symm))
  have g_b1 : n0 ≤ b1 := Nat.le_trans (own_old_le O0) (Nat.le_of_eq g1.symm)
  have sz_b1 : h0.size ≤ b1 := Nat.le_trans K0.1 (Nat.le_of_eq g1.symm)
  refine own_to st1 ?_
  have O1 := O0.ext E1
  have K1 := K0.ext E1
  have Vn1 : Arv Z h1 b1 k1 .byte (3 : Int32) [(.int (0 : Int32)), (.int (0 : Int32)), (.int (0 : Int32))] (.int (0 : Int32)) := (Arv.new A1 (by decide)).pad (pad_rep [] (.int (0 : Int32)) 3)
  show own_Ends _ _ _ _ (T1.setTop (mkF m 3 #[.val (.ref ca), .val (.int 0), .val (.int 3), .unset, .unset, .unset] [(.ref b1)]))
  refine own_to (fun _ kont => XS.astoreN X1.here hx rfl (hb hby d4_3) rfl rfl (l' := #[.val (.ref ca), .val (.int (0 : Int32)), .val (.int (3 : Int32)), .val (.ref b1), .unset, .unset]) rfl kont) ?_
  show own_Ends _ _ _ _ (T1.setTop (mkF m 4 #[.val (.ref ca), .val (.int 0), .val (.int 3), .val (.ref b1), .unset, .unset] []))
  refine own_to (fun _ kont => XS.aloadN X1.here hx rfl (hb hby d4_4) rfl rfl kont) ?_
  show own_Ends _ _ _ _ (T1.setTop (mkF m 5 #[.val (.ref ca), .val (.int 0), .val (.int 3), .val (.ref b1), .unset, .unset] [(.ref ca)]))
  refine own_to (fun _ kont => XS.iloadN X1.here hx rfl (hb hby d4_5) rfl kont) ?_
  show own_Ends _ _ _ _ (T1.setTop (mkF m 6 #[.val (.ref ca), .val (.int 0), .val (.int 3), .val (.ref b1), .unset, .unset] [(.int 0), (.ref ca)]))
  refine own_to (fun _ kont => XS.aloadN X1.here hx rfl (hb hby d4_6) rfl rfl kont) ?_
  show own_Ends _ _ _ _ (T1.setTop (mkF m 7 #[.val (.ref ca), .val (.int 0), .val (.int 3), .val (.ref b1), .unset, .unset] [(.ref b1), (.int 0), (.ref ca)]))
  refine own_to (fun _ kont => XS.iconst X1.here hx rfl (hb hby d4_7) kont) ?_
  show own_Ends _ _ _ _ (T1.setTop (mkF m 8 #[.val (.ref ca), .val (.int 0), .val (.int 3), .val (.ref b1), .unset, .unset] [(.int 0), (.ref b1), (.int 0), (.ref ca)]))
  refine own_to (fun _ kont => XS.iloadN X1.here hx rfl (hb hby d4_8) rfl kont) ?_
  show own_Ends _ _ _ _ (T1.setTop (mkF m 9 #[.val (.ref ca), .val (.int 0), .val (.int 3), .val (.ref b1), .unset, .unset] [(.int 3), (.int 0), (.ref b1), (.int 0), (.ref ca)]))
  obtain ⟨_, _, ⟨T2, L2, k2, n2⟩, -, X2, ⟨Lc2, hQ2, l2, y2, z2⟩, st2⟩ := Jvm.LawKit.callS X1 hx (y := oM0) hown (mvT hZ (ow20 hw)) (mvT hZ (ow21 hw)) (mvT hZ (ow17 hw)) (mvT hZ (ow22 hw)) (by decide) (backOf (W := 0) (cp2A l Z a0 hw [] ca b1 kc k1 h1 n0 O1 (V_c.ext E1) Vn1 g_b1 ne_ca_b1) hZ (ow22 hw) (ow17 hw) (by decide) (by decide)) (g := (mkF m 9 #[.val (.ref ca), .val (.int (0 : Int32)), .val (.int (3 : Int32)), .val (.ref b1), .unset, .unset] [(.int (3 : Int32)), (.int (0 : Int32)), (.ref b1), (.int (0 : Int32)), (.ref ca)])) rfl (by rw [hml]; rfl) (argsL := [(.ref ca), (.int (0 : Int32)), (.ref b1), (.int (0 : Int32)), (.int (3 : Int32))]) (rest := []) (lenOf pd_0 rfl) rfl (by show 2 * 0 + _ ≤ _; exact Nat.le_of_eq rfl) (hb hby d4_9) (fun _ _ => ⟨rfl, e1, (own_le rfl), (own_le rfl)⟩)
  dsimp only [Pt.U, Pt.locs, Pt.cells, Pt.slots] at X2 l2 y2 z2 st2 hQ2
  subst l2 y2 z2
  obtain ⟨rfl, N2q, Oq2, Kq2, Vx2⟩ := hQ2
  have N2 := Fr.app N0 N2q
  have KK2 := K1.trans Kq2 (allS (Or.inr sz_b1) all0)
  refine own_to st2 ?_
  show own_Ends _ _ _ _ (T2.setTop (mkF m 12 #[.val (.ref ca), .val (.int 0), .val (.int 3), .val (.ref b1), .unset, .unset] [(.int 3)]))
  refine own_to (fun _ kont => XS.istore X2.here hx rfl (hb hby d4_12) rfl (l' := #[.val (.ref ca), .val (.int (0 : Int32)), .val (.int (3 : Int32)), .val (.ref b1), .val (.int (3 : Int32)), .unset]) rfl kont) ?_
  show own_Ends _ _ _ _ (T2.setTop (mkF m 14 #[.val (.ref ca), .val (.int 0), .val (.int 3), .val (.ref b1), .val (.int 3), .unset] []))
  refine own_to (fun _ kont => XS.iload X2.here hx rfl (hb hby d4_14) rfl kont) ?_
  show own_Ends _ _ _ _ (T2.setTop (mkF m 16 #[.val (.ref ca), .val (.int 0), .val (.int 3), .val (.ref b1), .val (.int 3), .unset] [(.int 3)]))
  refine own_to (fun _ kont => XS.iloadN X2.here hx rfl (hb hby d4_16) rfl kont) ?_
  show own_Ends _ _ _ _ (T2.setTop (mkF m 17 #[.val (.ref ca), .val (.int 0), .val (.int 3), .val (.ref b1), .val (.int 3), .unset] [(.int 3), (.int 3)]))
  refine own_to (fun _ kont => XS.icmpYes X2.here hx rfl (pc0 := 17) (pc' := 57) rfl (hb hby d4_17) rfl (teq (by decide)).1 (by decide) (by decide) kont) ?_
  show own_Ends _ _ _ _ (T2.setTop (mkF m 57 #[.val (.ref ca), .val (.int 0), .val (.int 3), .val (.ref b1), .val (.int 3), .unset] []))
  refine own_to (fun _ kont => XS.aloadN X2.here hx rfl (hb hby d4_57) rfl rfl kont) ?_
  show own_Ends _ _ _ _ (T2.setTop (mkF m 58 #[.val (.ref ca), .val (.int 0), .val (.int 3), .val (.ref b1), .val (.int 3), .unset] [(.ref b1)]))
  refine own_leave X2 (v := some (.ref b1)) (fun h => by rw [Bd.returns] at h; cases h) ?_ (by decide) (by decide) (fun fs hr => retOut X2 hx Bd.returns rfl (Or.inr (Or.inr (Or.inr (Or.inr ⟨rfl, rfl, rfl⟩)))) (hb hby d4_58) hr)
  show Q_cp1A Z ca kc h0 n0 _ T2.heap _
  exact ⟨b1, k1, rfl, g_b1, sz_b1, N2, Oq2, KK2, Vx2⟩
theorem d6_0 : decode jdk_52_method_15_code 0 = .ok (.iload_n 1, 1) := by decide +kernel
theorem d6_1 : decode jdk_52_method_15_code 1 = .ok (.aload_n 0, 1) := by decide +kernel
theorem d6_2 : decode jdk_52_method_15_code 2 = .ok (.arraylength, 1) := by decide +kernel
theorem d6_3 : decode jdk_52_method_15_code 3 = .ok (.isub, 1) := by decide +kernel
theorem d6_4 : decode jdk_52_method_15_code 4 = .ok (.bipush 31, 2) := by decide +kernel
theorem d6_6 : decode jdk_52_method_15_code 6 = .ok (.iushr, 1) := by decide +kernel
theorem d6_7 : decode jdk_52_method_15_code 7 = .ok (.i2b, 1) := by decide +kernel
theorem d6_8 : decode jdk_52_method_15_code 8 = .ok (.ireturn, 1) := by decide +kernel
theorem pn_6 : plainName "java/lang/StringUTF16" = true := by first | (simp [plainName, overriddenIn]; done) | decide +kernel
theorem ef_cflA (m : MethodId) (ba : Addr) (kb : ClassId) : entryFrame m #[(.ref ba), (.int (3 : Int32))] 2 = mkF m 0 #[.val (.ref ba), .val (.int (3 : Int32))] [] := by first | (simp [entryFrame, mkF, argsToLocals, Value.category]; done) | rfl | (rcases ref_cases hrf with rfl | ⟨q, rfl⟩ <;> rfl)
def Q_cflA (Z : State) (ba : Addr) (kb : ClassId) (h0 : Heap) (n0 : Nat) (v : Option Value) (h : Heap) (L : List Loc) : Prop := v = some (.int (0 : Int32)) ∧ Fr n0 L ∧ h = h0
set_option maxRecDepth 65536 in
set_option maxHeartbeats 40000000 in
theorem cflA (l : Launch) (Z : State) (a0 : Array Value) (hw : ∀ d ∈ tables_1, d.before a0 Z = true) (ws : List Jvm.Cond) (ba : Addr) (kb : ClassId) (h0 : Heap) (n0 : Nat) (O0 : Old Z n0 h0) (V_b : Arv Z h0 ba kb .byte (3 : Int32) [(.int (109 : Int32)), (.int (115 : Int32)), (.int (105 : Int32))] (.int (0 : Int32))) :
    MetFree l oM2 (head1 (Jvm.Cond.code oM2 jdk_52_method_15_code 2 (some .byte) :: ws) ({ frames := 0, cells := 0, slots := 0, locals := 0 } : Room)) (fun aq_ U => aq_ = #[(.ref ba), (.int (3 : Int32))] ∧ Z.Warmed39 U.vm ∧ U.heap = h0) (fun _ _ _ _ _ => True) (fun _ U o U' => ∃ v L, o = .returned v ∧ Q_cflA Z ba kb h0 n0 v U'.heap L ∧ FrameEnd U o U' L ({ frames := 0, cells := 0, slots := 0, locals := 0 } : Room).cells ({ frames := 0, cells := 0, slots := 0, locals := 0 } : Room).slots) := by
  refine MetFree.of_bodySF (plainFor_of_name pn_6) hisR ?_
  intro p e s m args below meth c s₁ Bd hml0 hP hK
  obtain ⟨rfl, hZ, hh⟩ := hP
  have hx := Bd.exec
  have hby := Bd.bytes
  have hml : c.maxLocals = 2 := hml0
  have hown : s.vm.findClass "java/lang/StringUTF16" = some m.cls := findClass_of_methodNamed Bd.named
  have hnm := (name_of_methodNamed Bd.named Bd.method).1
  have X0 : Stand p l e ({ frames := 0, cells := 0, slots := 0, locals := 0 } : Room) s m #[(.ref ba), (.int (3 : Int32))] below meth c s₁ [] 0 0 := Stand.of_body Bd
  have e0 : s₁.heap = h0 := by rw [← hh, Bd.state]; rfl
  have N0 := Fr.nil n0
  show own_Ends p.tables e below (own_P s (Q_cflA Z ba kb h0 n0) ({ frames := 0, cells := 0, slots := 0, locals := 0 } : Room).cells ({ frames := 0, cells := 0, slots := 0, locals := 0 } : Room).slots) _
  refine own_cast (ef_cflA m ba kb) ?_
  show own_Ends _ _ _ _ (s₁.setTop (mkF m 0 #[.val (.ref ba), .val (.int 3)] []))
  refine own_to (fun _ kont => XS.iloadN X0.here hx rfl (hb hby d6_0) rfl kont) ?_
  show own_Ends _ _ _ _ (s₁.setTop (mkF m 1 #[.val (.ref ba), .val (.int 3)] [(.int 3)]))
  refine own_to (fun _ kont => XS.aloadN X0.here hx rfl (hb hby d6_1) rfl rfl kont) ?_
  show own_Ends _ _ _ _ (s₁.setTop (mkF m 2 #[.val (.ref ba), .val (.int 3)] [(.ref ba), (.int 3)]))
  obtain ⟨cl1, Ar1, q1, S1, M1, -, -⟩ := id V_b
  refine own_to (fun _ kont => X0.arraylength hx (by rw [e0]; exact Ar1.1) (State.isArrayOf_alike hZ.alike Ar1.2.1) (g := (mkF m 2 #[.val (.ref ba), .val (.int (3 : Int32))] [(.ref ba), (.int (3 : Int32))])) rfl rfl (hb hby d6_2) _ kont) ?_
  rw [len_of S1 M1]
  show own_Ends _ _ _ _ (s₁.setTop (mkF m 3 #[.val (.ref ba), .val (.int 3)] [(.int 3), (.int 3)]))
  refine own_to (fun _ kont => XS.isub X0.here hx rfl (hb hby d6_3) rfl kont) ?_
  show own_Ends _ _ _ _ (s₁.setTop (mkF m 4 #[.val (.ref ba), .val (.int 3)] [(.int 0)]))
  refine own_to (fun _ kont => XS.bipush X0.here hx rfl (hb hby d6_4) kont) ?_
  show own_Ends _ _ _ _ (s₁.setTop (mkF m 6 #[.val (.ref ba), .val (.int 3)] [(.int 31), (.int 0)]))
  refine own_to (fun _ kont => XS.iushr X0.here hx rfl (hb hby d6_6) rfl kont) ?_
  show own_Ends _ _ _ _ (s₁.setTop (mkF m 7 #[.val (.ref ba), .val (.int 3)] [(.int 0)]))
  refine own_to (fun _ kont => XS.i2b X0.here hx rfl (hb hby d6_7) rfl kont) ?_
  show own_Ends _ _ _ _ (s₁.setTop (mkF m 8 #[.val (.ref ba), .val (.int 3)] [(.int 0)]))
  refine own_leave X0 (v := some (.int (0 : Int32))) (fun h => by rw [Bd.returns] at h; cases h) ?_ (by decide) (by decide) (fun fs hr => retN X0 hx (t := .byte) Bd.returns (by simp) (hb hby d6_8) hr)
  show Q_cflA Z ba kb h0 n0 _ s₁.heap _
  rw [e0]
  exact ⟨rfl, N0, rfl⟩
theorem d2_0 : decode jdk_42_method_149_code 0 = .ok (.aload_n 0, 1) := by decide +kernel
theorem d2_1 : decode jdk_42_method_149_code 1 = .ok (.invokespecial 1, 3) := by decide +kernel
theorem d2_4 : decode jdk_42_method_149_code 4 = .ok (.iload_n 3, 1) := by decide +kernel
theorem d2_5 : decode jdk_42_method_149_code 5 = .ok (.ifCond .ne 22, 3) := by decide +kernel
theorem d2_27 : decode jdk_42_method_149_code 27 = .ok (.getstatic 38, 3) := by decide +kernel
theorem d2_30 : decode jdk_42_method_149_code 30 = .ok (.ifCond .eq 28, 3) := by decide +kernel
theorem d2_33 : decode jdk_42_method_149_code 33 = .ok (.aload_n 1, 1) := by decide +kernel
theorem d2_34 : decode jdk_42_method_149_code 34 = .ok (.iload_n 2, 1) := by decide +kernel
theorem d2_35 : decode jdk_42_method_149_code 35 = .ok (.iload_n 3, 1) := by decide +kernel
theorem d2_36 : decode jdk_42_method_149_code 36 = .ok (.invokestatic 177, 3) := by decide +kernel
theorem d2_39 : decode jdk_42_method_149_code 39 = .ok (.astore 5, 2) := by decide +kernel
theorem d2_41 : decode jdk_42_method_149_code 41 = .ok (.aload_n 0, 1) := by decide +kernel
theorem d2_42 : decode jdk_42_method_149_code 42 = .ok (.aload 5, 2) := by decide +kernel
theorem d2_44 : decode jdk_42_method_149_code 44 = .ok (.iload_n 3, 1) := by decide +kernel
theorem d2_45 : decode jdk_42_method_149_code 45 = .ok (.invokestatic 47, 3) := by decide +kernel
theorem d2_48 : decode jdk_42_method_149_code 48 = .ok (.putfield 15, 3) := by decide +kernel
theorem d2_51 : decode jdk_42_method_149_code 51 = .ok (.aload_n 0, 1) := by decide +kernel
theorem d2_52 : decode jdk_42_method_149_code 52 = .ok (.aload 5, 2) := by decide +kernel
theorem d2_54 : decode jdk_42_method_149_code 54 = .ok (.putfield 9, 3) := by decide +kernel
theorem d2_57 : decode jdk_42_method_149_code 57 = .ok (.return_, 1) := by decide +kernel
theorem pn_2 : plainName "java/lang/String" = true := by first | (simp [plainName, overriddenIn]; done) | decide +kernel
theorem pd_1 : parseMethodDescriptor "([CII)[B" = some ⟨[(.array .char), .int, .int], some (.array .byte)⟩ := by decide +kernel
theorem pd_2 : parseMethodDescriptor "([BI)B" = some ⟨[(.array .byte), .int], some .byte⟩ := by decide +kernel
theorem ef_in4A (m : MethodId) (a : Addr) (ca : Addr) (kc : ClassId) (cs_ : Int32) : entryFrame m #[(.ref a), (.ref ca), (.int (0 : Int32)), (.int (3 : Int32)), .null] 6 = mkF m 0 #[.val (.ref a), .val (.ref ca), .val (.int (0 : Int32)), .val (.int (3 : Int32)), .val .null, .unset] [] := by first | (simp [entryFrame, mkF, argsToLocals, Value.category]; done) | rfl | (rcases ref_cases hrf with rfl | ⟨q, rfl⟩ <;> rfl)
def Q_in4A (Z : State) (a : Addr) (ca : Addr) (kc : ClassId) (cs_ : Int32) (h0 : Heap) (n0 : Nat) (v : Option Value) (h : Heap) (L : List Loc) : Prop := v = none ∧ Fr n0 L ∧ Old Z n0 h ∧ Keep h0 h [a] ∧ Exa Z h a "java/lang/String" ∧ Fld Z h a "java/lang/String" "coder" "B" (.int (0 : Int32)) ∧ ∃ (b : Addr) (kb : ClassId), n0 ≤ b ∧ h0.size ≤ b ∧ Fld Z h a "java/lang/String" "value" "[B" (.ref b) ∧ Arv Z h b kb .byte (3 : Int32) [(.int (109 : Int32)), (.int (115 : Int32)), (.int (105 : Int32))] (.int (0 : Int32))
set_option maxRecDepth 65536 in
set_option maxHeartbeats 40000000 in
theorem in4A (l : Launch) (Z : State) (a0 : Array Value) (hw : ∀ d ∈ tables_1, d.before a0 Z = true) (ws : List Jvm.Cond) (a : Addr) (ca : Addr) (kc : ClassId) (cs_ : Int32) (h0 : Heap) (n0 : Nat) (O0 : Old Z n0 h0) (g_a : n0 ≤ a) (E_a : Exa Z h0 a "java/lang/String") (F_v : Fld Z h0 a "java/lang/String" "value" "[B" .null) (F_c : Fld Z h0 a "java/lang/String" "coder" "B" (.int (0 : Int32))) (V_c : Arv Z h0 ca kc .char (3 : Int32) [(.int (109 : Int32)), (.int (115 : Int32)), (.int (105 : Int32))] (.int (0 : Int32))) (ne_ca_a : ca ≠ a) (S_cs : Sta Z Z.heap "java/lang/String" "COMPACT_STRINGS" "Z" (.int cs_)) (hcs : ¬ cs_ = (0 : Int32)) :
    MetFree l oM3 (head1 (Jvm.Cond.code oM3 jdk_42_method_149_code 6 none :: ws) ({ frames := 3, cells := 1, slots := 3, locals := 40 } : Room)) (fun aq_ U => aq_ = #[(.ref a), (.ref ca), (.int (0 : Int32)), (.int (3 : Int32)), .null] ∧ Z.Warmed39 U.vm ∧ U.heap = h0) (fun _ _ _ _ _ => True) (fun _ U o U' => ∃ v L, o = .returned v ∧ Q_in4A Z a ca kc cs_ h0 n0 v U'.heap L ∧ FrameEnd U o U' L ({ frames := 3, cells := 1, slots := 3, locals := 40 } : Room).cells ({ frames := 3, cells := 1, slots := 3, locals := 40 } : Room).slots) := by
  refine MetFree.of_bodySF (plainFor_of_name pn_2) hisR ?_
  intro p e s m args below meth c s₁ Bd hml0 hP hK
  obtain ⟨rfl, hZ, hh⟩ := hP
  have hx := Bd.exec
  have hby := Bd.bytes
  have hml : c.maxLocals = 6 := hml0
  have hown : s.vm.findClass "java/lang/String" = some m.cls := findClass_of_methodNamed Bd.named
  have hnm := (name_of_methodNamed Bd.named Bd.method).1
  have X0 : Stand p l e ({ frames := 3, cells := 1, slots := 3, locals := 40 } : Room) s m #[(.ref a), (.ref ca), (.int (0 : Int32)), (.int (3 : Int32)), .null] below meth c s₁ [] 0 0 := Stand.of_body Bd
  have e0 : s₁.heap = h0 := by rw [← hh, Bd.state]; rfl
  have N0 := Fr.nil n0
  show own_Ends p.tables e below (own_P s (Q_in4A Z a ca kc cs_ h0 n0) ({ frames := 3, cells := 1, slots := 3, locals := 40 } : Room).cells ({ frames := 3, cells := 1, slots := 3, locals := 40 } : Room).slots) _
  refine own_cast (ef_in4A m a ca kc cs_) ?_
  have K0 := Keep.refl h0 [a]
  show own_Ends _ _ _ _ (s₁.setTop (mkF m 0 #[.val (.ref a), .val (.ref ca), .val (.int 0), .val (.int 3), .val .null, .unset] []))
  refine own_to (fun _ kont => XS.aloadN X0.here hx rfl (hb hby d2_0) rfl rfl kont) ?_
  show own_Ends _ _ _ _ (s₁.setTop (mkF m 1 #[.val (.ref a), .val (.ref ca), .val (.int 0), .val (.int 3), .val .null, .unset] [(.ref a)]))
  obtain ⟨T1, X1, e1, st1⟩ := initO X0 hx hZ hown (ow11 hw) (ow12 hw) (ow13 hw) e0 (g := (mkF m 1 #[.val (.ref a), .val (.ref ca), .val (.int (0 : Int32)), .val (.int (3 : Int32)), .val .null, .unset] [(.ref a)])) rfl (by rw [hml]; rfl) rfl (hb hby d2_1) (by decide) (W := 0) (by show 2 * 0 + _ ≤ _; exact Nat.le_of_eq rfl) (by decide)
  refine own_to st1 ?_
  show own_Ends _ _ _ _ (T1.setTop (mkF m 4 #[.val (.ref a), .val (.ref ca), .val (.int 0), .val (.int 3), .val .null, .unset] []))
  refine own_to (fun _ kont => XS.iloadN X1.here hx rfl (hb hby d2_4) rfl kont) ?_
  show own_Ends _ _ _ _ (T1.setTop (mkF m 5 #[.val (.ref a), .val (.ref ca), .val (.int 0), .val (.int 3), .val .null, .unset] [(.int 3)]))
  refine own_to (fun _ kont => XS.ifYes X1.here hx rfl (pc0 := 5) (pc' := 27) rfl (hb hby d2_5) rfl ((if0 _ _).trans (feq (by decide)).2) (by decide) (by decide) kont) ?_
  show own_Ends _ _ _ _ (T1.setTop (mkF m 27 #[.val (.ref a), .val (.ref ca), .val (.int 0), .val (.int 3), .val .null, .unset] []))
  obtain ⟨T2, X2, e2, st2⟩ := getS2 X1 hx hZ hown (host := "") (Or.inl (ow14 hw)) Via.refl e1 (S_cs.ext O0.2) (g := (mkF m 27 #[.val (.ref a), .val (.ref ca), .val (.int (0 : Int32)), .val (.int (3 : Int32)), .val .null, .unset] [])) rfl (hb hby d2_27)
  refine own_to st2 ?_
  show own_Ends _ _ _ _ (T2.setTop (mkF m 30 #[.val (.ref a), .val (.ref ca), .val (.int 0), .val (.int 3), .val .null, .unset] [(.int cs_)]))
  refine own_to (fun _ kont => XS.ifNo X2.here hx rfl (hb hby d2_30) rfl ((if0 _ _).trans (feq hcs).1) kont) ?_
  show own_Ends _ _ _ _ (T2.setTop (mkF m 33 #[.val (.ref a), .val (.ref ca), .val (.int 0), .val (.int 3), .val .null, .unset] []))
  refine own_to (fun _ kont => XS.aloadN X2.here hx rfl (hb hby d2_33) rfl rfl kont) ?_
  show own_Ends _ _ _ _ (T2.setTop (mkF m 34 #[.val (.ref a), .val (.ref ca), .val (.int 0), .val (.int 3), .val .null, .unset] [(.ref ca)]))
  refine own_to (fun _ kont => XS.iloadN X2.here hx rfl (hb hby d2_34) rfl kont) ?_
  show own_Ends _ _ _ _ (T2.setTop (mkF m 35 #[.val (.ref a), .val (.ref ca), .val (.int 0), .val (.int 3), .val .null, .unset] [(.int 0), (.ref ca)]))
  refine own_to (fun _ kont => XS.iloadN X2.here hx rfl (hb hby d2_35) rfl kont) ?_
  show own_Ends _ _ _ _ (T2.setTop (mkF m 36 #[.val (.ref a), .val (.ref ca), .val (.int 0), .val (.int 3), .val .null, .unset] [(.int 3), (.int 0), (.ref ca)]))
  obtain ⟨_, _, ⟨T3, L3, k3, n3⟩, -, X3, ⟨Lc3, hQ3, l3, y3, z3⟩, st3⟩ := Jvm.LawKit.callS X2 hx (y := oM1) hown (mvT hZ (ow15 hw)) (mvT hZ (ow16 hw)) (mvT hZ (ow17 hw)) (mvT hZ (ow18 hw)) (by decide) (backOf (W := 0) (cp1A l Z a0 hw [] ca kc h0 n0 O0 V_c) hZ (ow18 hw) (ow17 hw) (by decide) (by decide)) (g := (mkF m 36 #[.val (.ref a), .val (.ref ca), .val (.int (0 : Int32)), .val (.int (3 : Int32)), .val .null, .unset] [(.int (3 : Int32)), (.int (0 : Int32)), (.ref ca)])) rfl (by rw [hml]; rfl) (argsL := [(.ref ca), (.int (0 : Int32)), (.int (3 : Int32))]) (rest := []) (lenOf pd_1 rfl) rfl (by show 2 * 0 + _ ≤ _; exact Nat.le_of_eq rfl) (hb hby d2_36) (fun _ _ => ⟨rfl, e2, (own_le rfl), (own_le rfl)⟩)
  dsimp only [Pt.U, Pt.locs, Pt.cells, Pt.slots] at X3 l3 y3 z3 st3 hQ3
  subst l3 y3 z3
  obtain ⟨u3, ku3, rfl, g_u3, sq_u3, N3q, Oq3, Kq3, Vx3⟩ := hQ3
  have N3 := Fr.app N0 N3q
  have ne_ca_u3 : ca ≠ u3 := Nat.ne_of_lt (Nat.lt_of_lt_of_le V_c.lt sq_u3)
  have ne_a_u3 : a ≠ u3 := Nat.ne_of_lt (Nat.lt_of_lt_of_le E_a.lt sq_u3)
  have sz_u3 : h0.size ≤ u3 := Nat.le_trans K0.1 sq_u3
  have KK3 := K0.trans Kq3 all0
  refine own_to st3 ?_
  show own_Ends _ _ _ _ (T3.setTop (mkF m 39 #[.val (.ref a), .val (.ref ca), .val (.int 0), .val (.int 3), .val .null, .unset] [(.ref u3)]))
  refine own_to (fun _ kont => XS.astore X3.here hx rfl (hb hby d2_39) rfl rfl (l' := #[.val (.ref a), .val (.ref ca), .val (.int (0 : Int32)), .val (.int (3 : Int32)), .val .null, .val (.ref u3)]) rfl kont) ?_
  show own_Ends _ _ _ _ (T3.setTop (mkF m 41 #[.val (.ref a), .val (.ref ca), .val (.int 0), .val (.int 3), .val .null, .val (.ref u3)] []))
  refine own_to (fun _ kont => XS.aloadN X3.here hx rfl (hb hby d2_41) rfl rfl kont) ?_
  show own_Ends _ _ _ _ (T3.setTop (mkF m 42 #[.val (.ref a), .val (.ref ca), .val (.int 0), .val (.int 3), .val .null, .val (.ref u3)] [(.ref a)]))
  refine own_to (fun _ kont => XS.aload X3.here hx rfl (hb hby d2_42) rfl rfl kont) ?_
  show own_Ends _ _ _ _ (T3.setTop (mkF m 44 #[.val (.ref a), .val (.ref ca), .val (.int 0), .val (.int 3), .val .null, .val (.ref u3)] [(.ref u3), (.ref a)]))
  refine own_to (fun _ kont => XS.iloadN X3.here hx rfl (hb hby d2_44) rfl kont) ?_
  show own_Ends _ _ _ _ (T3.setTop (mkF m 45 #[.val (.ref a), .val (.ref ca), .val (.int 0), .val (.int 3), .val .null, .val (.ref u3)] [(.int 3), (.ref u3), (.ref a)]))
  obtain ⟨_, _, ⟨T4, L4, k4, n4⟩, -, X4, ⟨Lc4, hQ4, l4, y4, z4⟩, st4⟩ := Jvm.LawKit.callS X3 hx (y := oM2) hown (mvT hZ (ow23 hw)) (mvT hZ (ow24 hw)) (mvT hZ (ow17 hw)) (mvT hZ (ow25 hw)) (by decide) (backOf (W := 1) (cflA l Z a0 hw [] u3 ku3 T3.heap n0 Oq3 Vx3) hZ (ow25 hw) (ow17 hw) (by decide) (by decide)) (g := (mkF m 45 #[.val (.ref a), .val (.ref ca), .val (.int (0 : Int32)), .val (.int (3 : Int32)), .val .null, .val (.ref u3)] [(.int (3 : Int32)), (.ref u3), (.ref a)])) rfl (by rw [hml]; rfl) (argsL := [(.ref u3), (.int (3 : Int32))]) (rest := [(.ref a)]) (lenOf pd_2 rfl) rfl (by show 2 * 0 + _ ≤ _; exact Nat.le_of_eq rfl) (hb hby d2_45) (fun _ _ => ⟨rfl, rfl, (own_le rfl), (own_le rfl)⟩)
  dsimp only [Pt.U, Pt.locs, Pt.cells, Pt.slots] at X4 l4 y4 z4 st4 hQ4
  subst l4 y4 z4
  obtain ⟨rfl, N4q, E4⟩ := hQ4
  have N4 := Fr.app N3 N4q
  refine own_to st4 ?_
  show own_Ends _ _ _ _ (T4.setTop (mkF m 48 #[.val (.ref a), .val (.ref ca), .val (.int 0), .val (.int 3), .val .null, .val (.ref u3)] [(.int 0), (.ref a)]))
  obtain ⟨T5, h5, X5, e5, W5, st5⟩ := putFN X4 hx hZ hown (ow26 hw) Via.refl E4 (F_c.keep Kq3 nin0) (E_a.keep Kq3) (Or.inr ⟨(ow27 hw), rfl, hnm⟩) (ow2 hw) (ty := .byte) (v' := (.int (nar .byte (0 : Int32)))) (by decide) rfl (fits_nar_byte _) (g := (mkF m 48 #[.val (.ref a), .val (.ref ca), .val (.int (0 : Int32)), .val (.int (3 : Int32)), .val .null, .val (.ref u3)] [(.int (0 : Int32)), (.ref a)])) rfl rfl (hb hby d2_48)
  refine own_to st5 ?_
  have Fw5 : Fld Z h5 a "java/lang/String" "coder" "B" (.int (0 : Int32)) := (F_c.keep Kq3 nin0).same W5
  have O5 := Oq3.wr W5 g_a
  have N5 := Fr.snoc X5 N4 g_a
  have K5 := KK3.wr W5 (Or.inl (List.mem_of_getElem? (i := 0) rfl))
  show own_Ends _ _ _ _ (T5.setTop (mkF m 51 #[.val (.ref a), .val (.ref ca), .val (.int 0), .val (.int 3), .val .null, .val (.ref u3)] []))
  refine own_to (fun _ kont => XS.aloadN X5.here hx rfl (hb hby d2_51) rfl rfl kont) ?_
  show own_Ends _ _ _ _ (T5.setTop (mkF m 52 #[.val (.ref a), .val (.ref ca), .val (.int 0), .val (.int 3), .val .null, .val (.ref u3)] [(.ref a)]))
  refine own_to (fun _ kont => XS.aload X5.here hx rfl (hb hby d2_52) rfl rfl kont) ?_
  show own_Ends _ _ _ _ (T5.setTop (mkF m 54 #[.val (.ref a), .val (.ref ca), .val (.int 0), .val (.int 3), .val .null, .val (.ref u3)] [(.ref u3), (.ref a)]))
  obtain ⟨T6, h6, X6, e6, W6, st6⟩ := putF X5 hx hZ hown (host := "") (Or.inl (ow28 hw)) Via.refl e5 ((F_v.keep Kq3 nin0).other W5 (Or.inr (slot_ne (Or.inr (ow29 hw)) (Or.inr (ow27 hw)) (by decide) (t := (.array .byte)) (t' := .byte) (by decide) (by decide)))) ((E_a.keep Kq3).wr W5) (Or.inr ⟨(ow29 hw), rfl, hnm⟩) (ow2 hw) (ty := (.array .byte)) (by decide) rfl rfl (g := (mkF m 54 #[.val (.ref a), .val (.ref ca), .val (.int (0 : Int32)), .val (.int (3 : Int32)), .val .null, .val (.ref u3)] [(.ref u3), (.ref a)])) rfl rfl (hb hby d2_54)
  refine own_to st6 ?_
  have Fw6 : Fld Z h6 a "java/lang/String" "value" "[B" (.ref u3) := ((F_v.keep Kq3 nin0).other W5 (Or.inr (slot_ne (Or.inr (ow29 hw)) (Or.inr (ow27 hw)) (by decide) (t := (.array .byte)) (t' := .byte) (by decide) (by decide)))).same W6
  have O6 := O5.wr W6 g_a
  have N6 := Fr.snoc X6 N5 g_a
  have K6 := K5.wr W6 (Or.inl (List.mem_of_getElem? (i := 0) rfl))
  show own_Ends _ _ _ _ (T6.setTop (mkF m 57 #[.val (.ref a), .val (.ref ca), .val (.int 0), .val (.int 3), .val .null, .val (.ref u3)] []))
  refine own_leave X6 (v := none) (fun _ => rfl) ?_ (by decide) (by decide) (fun fs hr => X6.returnOut hx Bd.returns (hb hby d2_57) hr)
  show Q_in4A Z a ca kc cs_ h0 n0 _ T6.heap _
  rw [e6]
  exact ⟨rfl, N6, O6, K6, (((E_a.keep Kq3).wr W5).wr W6), (Fw5.other W6 (Or.inr (slot_ne (Or.inr (ow27 hw)) (Or.inr (ow29 hw)) (by decide) (t := .byte) (t' := (.array .byte)) (by decide) (by decide)))), u3, ku3, g_u3, sz_u3, Fw6, ((Vx3.other W5 (Ne.symm ne_a_u3)).other W6 (Ne.symm ne_a_u3))⟩
theorem d1_0 : decode jdk_42_method_3_code 0 = .ok (.aload_n 0, 1) := by decide +kernel
theorem d1_1 : decode jdk_42_method_3_code 1 = .ok (.aload_n 1, 1) := by decide +kernel
theorem d1_2 : decode jdk_42_method_3_code 2 = .ok (.iconst 0, 1) := by decide +kernel
theorem d1_3 : decode jdk_42_method_3_code 3 = .ok (.aload_n 1, 1) := by decide +kernel
theorem d1_4 : decode jdk_42_method_3_code 4 = .ok (.arraylength, 1) := by decide +kernel
theorem d1_5 : decode jdk_42_method_3_code 5 = .ok (.aconst_null, 1) := by decide +kernel
theorem d1_6 : decode jdk_42_method_3_code 6 = .ok (.invokespecial 27, 3) := by decide +kernel
theorem d1_9 : decode jdk_42_method_3_code 9 = .ok (.return_, 1) := by decide +kernel
theorem pn_1 : plainName "java/lang/String" = true := by first | (simp [plainName, overriddenIn]; done) | decide +kernel
theorem pd_3 : parseMethodDescriptor "([CIILjava/lang/Void;)V" = some ⟨[(.array .char), .int, .int, (.object "java/lang/Void")], none⟩ := by decide +kernel
theorem ef_in1A (m : MethodId) (a : Addr) (ca : Addr) : entryFrame m #[(.ref a), (.ref ca)] 2 = mkF m 0 #[.val (.ref a), .val (.ref ca)] [] := by first | (simp [entryFrame, mkF, argsToLocals, Value.category]; done) | rfl | (rcases ref_cases hrf with rfl | ⟨q, rfl⟩ <;> rfl)
def Q_in1A (Z : State) (a : Addr) (ca : Addr) (kc : ClassId) (cs_ : Int32) (h0 : Heap) (n0 : Nat) (v : Option Value) (h : Heap) (L : List Loc) : Prop := v = none ∧ Fr n0 L ∧ Old Z n0 h ∧ Keep h0 h [a] ∧ Exa Z h a "java/lang/String" ∧ Fld Z h a "java/lang/String" "coder" "B" (.int (0 : Int32)) ∧ ∃ (b : Addr) (kb : ClassId), n0 ≤ b ∧ h0.size ≤ b ∧ Fld Z h a "java/lang/String" "value" "[B" (.ref b) ∧ Arv Z h b kb .byte (3 : Int32) [(.int (109 : Int32)), (.int (115 : Int32)), (.int (105 : Int32))] (.int (0 : Int32))
set_option maxRecDepth 65536 in
set_option maxHeartbeats 40000000 in
theorem in1A (l : Launch) (Z : State) (a0 : Array Value) (hw : ∀ d ∈ tables_1, d.before a0 Z = true) (ws : List Jvm.Cond) (a : Addr) (ca : Addr) (kc : ClassId) (cs_ : Int32) (h0 : Heap) (n0 : Nat) (O0 : Old Z n0 h0) (g_a : n0 ≤ a) (E_a : Exa Z h0 a "java/lang/String") (F_v : Fld Z h0 a "java/lang/String" "value" "[B" .null) (F_c : Fld Z h0 a "java/lang/String" "coder" "B" (.int (0 : Int32))) (V_c : Arv Z h0 ca kc .char (3 : Int32) [(.int (109 : Int32)), (.int (115 : Int32)), (.int (105 : Int32))] (.int (0 : Int32))) (ne_ca_a : ca ≠ a) (S_cs : Sta Z Z.heap "java/lang/String" "COMPACT_STRINGS" "Z" (.int cs_)) (hcs : ¬ cs_ = (0 : Int32)) :
    MetFree l oM4 (head1 (Jvm.Cond.code oM4 jdk_42_method_3_code 2 none :: ws) ({ frames := 4, cells := 1, slots := 3, locals := 64 } : Room)) (fun aq_ U => aq_ = #[(.ref a), (.ref ca)] ∧ Z.Warmed39 U.vm ∧ U.heap = h0) (fun _ _ _ _ _ => True) (fun _ U o U' => ∃ v L, o = .returned v ∧ Q_in1A Z a ca kc cs_ h0 n0 v U'.heap L ∧ FrameEnd U o U' L ({ frames := 4, cells := 1, slots := 3, locals := 64 } : Room).cells ({ frames := 4, cells := 1, slots := 3, locals := 64 } : Room).slots) := by
  refine MetFree.of_bodySF (plainFor_of_name pn_1) hisR ?_
  intro p e s m args below meth c s₁ Bd hml0 hP hK
  obtain ⟨rfl, hZ, hh⟩ := hP
  have hx := Bd.exec
  have hby := Bd.bytes
  have hml : c.maxLocals = 2 := hml0
  have hown : s.vm.findClass "java/lang/String" = some m.cls := findClass_of_methodNamed Bd.named
  have hnm := (name_of_methodNamed Bd.named Bd.method).1
  have X0 : Stand p l e ({ frames := 4, cells := 1, slots := 3, locals := 64 } : Room) s m #[(.ref a), (.ref ca)] below meth c s₁ [] 0 0 := Stand.of_body Bd
  have e0 : s₁.heap = h0 := by rw [← hh, Bd.state]; rfl
  have N0 := Fr.nil n0
  show own_Ends p.tables e below (own_P s (Q_in1A Z a ca kc cs_ h0 n0) ({ frames := 4, cells := 1, slots := 3, locals := 64 } : Room).cells ({ frames := 4, cells := 1, slots := 3, locals := 64 } : Room).slots) _
  refine own_cast (ef_in1A m a ca) ?_
  have K0 := Keep.refl h0 [a]
  show own_Ends _ _ _ _ (s₁.setTop (mkF m 0 #[.val (.ref a), .val (.ref ca)] []))
  refine own_to (fun _ kont => XS.aloadN X0.here hx rfl (hb hby d1_0) rfl rfl kont) ?_
  show own_Ends _ _ _ _ (s₁.setTop (mkF m 1 #[.val (.ref a), .val (.ref ca)] [(.ref a)]))
  refine own_to (fun _ kont => XS.aloadN X0.here hx rfl (hb hby d1_1) rfl rfl kont) ?_
  show own_Ends _ _ _ _ (s₁.setTop (mkF m 2 #[.val (.ref a), .val (.ref ca)] [(.ref ca), (.ref a)]))
  refine own_to (fun _ kont => XS.iconst X0.here hx rfl (hb hby d1_2) kont) ?_
  show own_Ends _ _ _ _ (s₁.setTop (mkF m 3 #[.val (.ref a), .val (.ref ca)] [(.int 0), (.ref ca), (.ref a)]))
  refine own_to (fun _ kont => XS.aloadN X0.here hx rfl (hb hby d1_3) rfl rfl kont) ?_
  show own_Ends _ _ _ _ (s₁.setTop (mkF m 4 #[.val (.ref a), .val (.ref ca)] [(.ref ca), (.int 0), (.ref ca), (.ref a)]))
  obtain ⟨cl1, Ar1, q1, S1, M1, -, -⟩ := id V_c
  refine own_to (fun _ kont => X0.arraylength hx (by rw [e0]; exact Ar1.1) (State.isArrayOf_alike hZ.alike Ar1.2.1) (g := (mkF m 4 #[.val (.ref a), .val (.ref ca)] [(.ref ca), (.int (0 : Int32)), (.ref ca), (.ref a)])) rfl rfl (hb hby d1_4) _ kont) ?_
  rw [len_of S1 M1]
  show own_Ends _ _ _ _ (s₁.setTop (mkF m 5 #[.val (.ref a), .val (.ref ca)] [(.int 3), (.int 0), (.ref ca), (.ref a)]))
  refine own_to (fun _ kont => XS.aconstNull X0.here hx rfl (hb hby d1_5) kont) ?_
  show own_Ends _ _ _ _ (s₁.setTop (mkF m 6 #[.val (.ref a), .val (.ref ca)] [.null, (.int 3), (.int 0), (.ref ca), (.ref a)]))
  obtain ⟨_, _, ⟨T2, L2, k2, n2⟩, -, X2, ⟨Lc2, hQ2, l2, y2, z2⟩, st2⟩ := X0.specialBack hx (y := oM3) rfl hown (mvT hZ (ow7 hw)) (mvT hZ (ow8 hw)) (mvT hZ (ow10 hw)) (by decide) (backOf (W := 0) (in4A l Z a0 hw [] a ca kc cs_ h0 n0 O0 g_a E_a F_v F_c V_c ne_ca_a S_cs hcs) hZ (ow10 hw) (ow3 hw) (by decide) (by decide)) (g := (mkF m 6 #[.val (.ref a), .val (.ref ca)] [.null, (.int (3 : Int32)), (.int (0 : Int32)), (.ref ca), (.ref a)])) rfl (by rw [hml]; rfl) (Steps.refl _) (a := a) (argsL := [(.ref ca), (.int (0 : Int32)), (.int (3 : Int32)), .null]) (rest := []) (lenOf pd_3 rfl) rfl (by show 2 * 0 + _ ≤ _; exact Nat.le_of_eq rfl) (hb hby d1_6) (fun _ _ => ⟨rfl, e0, (own_le rfl), (own_le rfl)⟩)
  dsimp only [Pt.U, Pt.locs, Pt.cells, Pt.slots] at X2 l2 y2 z2 st2 hQ2
  subst l2 y2 z2
  obtain ⟨rfl, N2q, Oq2, Kq2, Ex2, Fc2, u2, ku2, g_u2, sq_u2, Fv2, Vx2⟩ := hQ2
  have N2 := Fr.app N0 N2q
  have ne_ca_u2 : ca ≠ u2 := Nat.ne_of_lt (Nat.lt_of_lt_of_le V_c.lt sq_u2)
  have ne_a_u2 : a ≠ u2 := Nat.ne_of_lt (Nat.lt_of_lt_of_le E_a.lt sq_u2)
  have sz_u2 : h0.size ≤ u2 := Nat.le_trans K0.1 sq_u2
  have KK2 := K0.trans Kq2 (allS (Or.inl (List.mem_of_getElem? (i := 0) rfl)) all0)
  refine own_tr st2 ?_
  show own_Ends _ _ _ _ (T2.setTop (mkF m 9 #[.val (.ref a), .val (.ref ca)] []))
  refine own_leave X2 (v := none) (fun _ => rfl) ?_ (by decide) (by decide) (fun fs hr => X2.returnOut hx Bd.returns (hb hby d1_9) hr)
  show Q_in1A Z a ca kc cs_ h0 n0 _ T2.heap _
  exact ⟨rfl, N2, Oq2, KK2, Ex2, Fc2, u2, ku2, g_u2, sz_u2, Fv2, Vx2⟩
theorem ef_cp2B (m : MethodId) (ca : Addr) (da : Addr) (kc : ClassId) (kd : ClassId) : entryFrame m #[(.ref ca), (.int (0 : Int32)), (.ref da), (.int (0 : Int32)), (.int (8 : Int32))] 7 = mkF m 0 #[.val (.ref ca), .val (.int (0 : Int32)), .val (.ref da), .val (.int (0 : Int32)), .val (.int (8 : Int32)), .unset, .unset] [] := by first | (simp [entryFrame, mkF, argsToLocals, Value.category]; done) | rfl | (rcases ref_cases hrf with rfl | ⟨q, rfl⟩ <;> rfl)
def Q_cp2B (Z : State) (ca : Addr) (da : Addr) (kc : ClassId) (kd : ClassId) (h0 : Heap) (n0 : Nat) (v : Option Value) (h : Heap) (L : List Loc) : Prop := v = some (.int (8 : Int32)) ∧ Fr n0 L ∧ Old Z n0 h ∧ Keep h0 h [da] ∧ Arv Z h da kd .byte (8 : Int32) [(.int (114 : Int32)), (.int (101 : Int32)), (.int (103 : Int32)), (.int (105 : Int32)), (.int (115 : Int32)), (.int (116 : Int32)), (.int (114 : Int32)), (.int (121 : Int32))] (.int (0 : Int32))
set_option maxRecDepth 65536 in
set_option maxHeartbeats 40000000 in
theorem cp2B (l : Launch) (Z : State) (a0 : Array Value) (hw : ∀ d ∈ tables_1, d.before a0 Z = true) (ws : List Jvm.Cond) (ca : Addr) (da : Addr) (kc : ClassId) (kd : ClassId) (h0 : Heap) (n0 : Nat) (O0 : Old Z n0 h0) (V_c : Arv Z h0 ca kc .char (8 : Int32) [(.int (114 : Int32)), (.int (101 : Int32)), (.int (103 : Int32)), (.int (105 : Int32)), (.int (115 : Int32)), (.int (116 : Int32)), (.int (114 : Int32)), (.int (121 : Int32))] (.int (0 : Int32))) (V_d : Arv Z h0 da kd .byte (8 : Int32) [(.int (0 : Int32)), (.int (0 : Int32)), (.int (0 : Int32)), (.int (0 : Int32)), (.int (0 : Int32)), (.int (0 : Int32)), (.int (0 : Int32)), (.int (0 : Int32))] (.int (0 : Int32))) (g_da : n0 ≤ da) (ne_ca_da : ca ≠ da) :
    MetFree l oM0 (head1 (Jvm.Cond.code oM0 jdk_52_method_21_code 7 (some .int) :: ws) ({ frames := 0, cells := 0, slots := 0, locals := 0 } : Room)) (fun aq_ U => aq_ = #[(.ref ca), (.int (0 : Int32)), (.ref da), (.int (0 : Int32)), (.int (8 : Int32))] ∧ Z.Warmed39 U.vm ∧ U.heap = h0) (fun _ _ _ _ _ => True) (fun _ U o U' => ∃ v L, o = .returned v ∧ Q_cp2B Z ca da kc kd h0 n0 v U'.heap L ∧ FrameEnd U o U' L ({ frames := 0, cells := 0, slots := 0, locals := 0 } : Room).cells ({ frames := 0, cells := 0, slots := 0, locals := 0 } : Room).slots) := by
  refine MetFree.of_bodySF (plainFor_of_name pn_5) hisR ?_
  intro p e s m args below meth c s₁ Bd hml0 hP hK
  obtain ⟨rfl, hZ, hh⟩ := hP
  have hx := Bd.exec
  have hby := Bd.bytes
  have hml : c.maxLocals = 7 := hml0
  have hown : s.vm.findClass "java/lang/StringUTF16" = some m.cls := findClass_of_methodNamed Bd.named
  have hnm := (name_of_methodNamed Bd.named Bd.method).1
  have X0 : Stand p l e ({ frames := 0, cells := 0, slots := 0, locals := 0 } : Room) s m #[(.ref ca), (.int (0 : Int32)), (.ref da), (.int (0 : Int32)), (.int (8 : Int32))] below meth c s₁ [] 0 0 := Stand.of_body Bd
  have e0 : s₁.heap = h0 := by rw [← hh, Bd.state]; rfl
  have N0 := Fr.nil n0
  show own_Ends p.tables e below (own_P s (Q_cp2B Z ca da kc kd h0 n0) ({ frames := 0, cells := 0, slots := 0, locals := 0 } : Room).cells ({ frames := 0, cells := 0, slots := 0, locals := 0 } : Room).slots) _
  refine own_cast (ef_cp2B m ca da kc kd) ?_
  have K0 := Keep.refl h0 [da]
  show own_Ends _ _ _ _ (s₁.setTop (mkF m 0 #[.val (.ref ca), .val (.int 0), .val (.ref da), .val (.int 0), .val (.int 8), .unset, .unset] []))
  refine own_to (fun _ kont => XS.iconst X0.here hx rfl (hb hby d5_0) kont) ?_
  show own_Ends _ _ _ _ (s₁.setTop (mkF m 1 #[.val (.ref ca), .val (.int 0), .val (.ref da), .val (.int 0), .val (.int 8), .unset, .unset] [(.int 0)]))
  refine own_to (fun _ kont => XS.istore X0.here hx rfl (hb hby d5_1) rfl (l' := #[.val (.ref ca), .val (.int (0 : Int32)), .val (.ref da), .val (.int (0 : Int32)), .val (.int (8 : Int32)), .val (.int (0 : Int32)), .unset]) rfl kont) ?_
  show own_Ends _ _ _ _ (s₁.setTop (mkF m 3 #[.val (.ref ca), .val (.int 0), .val (.ref da), .val (.int 0), .val (.int 8), .val (.int 0), .unset] []))
  refine own_to (fun _ kont => XS.iload X0.here hx rfl (hb hby d5_3) rfl kont) ?_
  show own_Ends _ _ _ _ (s₁.setTop (mkF m 5 #[.val (.ref ca), .val (.int 0), .val (.ref da), .val (.int 0), .val (.int 8), .val (.int 0), .unset] [(.int 0)]))
  refine own_to (fun _ kont => XS.iload X0.here hx rfl (hb hby d5_5) rfl kont) ?_
  show own_Ends _ _ _ _ (s₁.setTop (mkF m 7 #[.val (.ref ca), .val (.int 0), .val (.ref da), .val (.int 0), .val (.int 8), .val (.int 0), .unset] [(.int 8), (.int 0)]))
  refine own_to (fun _ kont => XS.icmpNo X0.here hx rfl (hb hby d5_7) rfl (tlt (by decide)).2.1 kont) ?_
  show own_Ends _ _ _ _ (s₁.setTop (mkF m 10 #[.val (.ref ca), .val (.int 0), .val (.ref da), .val (.int 0), .val (.int 8), .val (.int 0), .unset] []))
  refine own_to (fun _ kont => XS.aloadN X0.here hx rfl (hb hby d5_10) rfl rfl kont) ?_
  show own_Ends _ _ _ _ (s₁.setTop (mkF m 11 #[.val (.ref ca), .val (.int 0), .val (.ref da), .val (.int 0), .val (.int 8), .val (.int 0), .unset] [(.ref ca)]))
  refine own_to (fun _ kont => XS.iloadN X0.here hx rfl (hb hby d5_11) rfl kont) ?_
  show own_Ends _ _ _ _ (s₁.setTop (mkF m 12 #[.val (.ref ca), .val (.int 0), .val (.ref da), .val (.int 0), .val (.int 8), .val (.int 0), .unset] [(.int 0), (.ref ca)]))
  obtain ⟨cl1, Ar1, q1, S1, M1, H1, G1⟩ := id V_c
  have hin1 : ¬ ((0 : Int32) < 0 ∨ cl1.slots.size ≤ ((0 : Int32)).toNatClampNeg) := inb_of S1 ⟨by decide, by decide⟩
  have hat1 : cl1.slots[((0 : Int32)).toNatClampNeg]? = some (.int (114 : Int32)) := Has.at H1 hin1 rfl
  refine own_to (fun _ kont => X0.caload hx (j := (0 : Int32)) (v := (.int (114 : Int32))) (by rw [e0]; exact Ar1.1) (State.isArrayOf_alike hZ.alike Ar1.2.1) Ar1.2.2 hin1 hat1 (g := (mkF m 12 #[.val (.ref ca), .val (.int (0 : Int32)), .val (.ref da), .val (.int (0 : Int32)), .val (.int (8 : Int32)), .val (.int (0 : Int32)), .unset] [(.int (0 : Int32)), (.ref ca)])) rfl rfl (hb hby d5_12) _ kont) ?_
  show own_Ends _ _ _ _ (s₁.setTop (mkF m 13 #[.val (.ref ca), .val (.int 0), .val (.ref da), .val (.int 0), .val (.int 8), .val (.int 0), .unset] [(.int 114)]))
  refine own_to (fun _ kont => XS.istore X0.here hx rfl (hb hby d5_13) rfl (l' := #[.val (.ref ca), .val (.int (0 : Int32)), .val (.ref da), .val (.int (0 : Int32)), .val (.int (8 : Int32)), .val (.int (0 : Int32)), .val (.int (114 : Int32))]) rfl kont) ?_
  show own_Ends _ _ _ _ (s₁.setTop (mkF m 15 #[.val (.ref ca), .val (.int 0), .val (.ref da), .val (.int 0), .val (.int 8), .val (.int 0), .val (.int 114)] []))
  refine own_to (fun _ kont => XS.iload X0.here hx rfl (hb hby d5_15) rfl kont) ?_
  show own_Ends _ _ _ _ (s₁.setTop (mkF m 17 #[.val (.ref ca), .val (.int 0), .val (.ref da), .val (.int 0), .val (.int 8), .val (.int 0), .val (.int 114)] [(.int 114)]))
  refine own_to (fun _ kont => XS.sipush X0.here hx rfl (hb hby d5_17) kont) ?_
  show own_Ends _ _ _ _ (s₁.setTop (mkF m 20 #[.val (.ref ca), .val (.int 0), .val (.ref da), .val (.int 0), .val (.int 8), .val (.int 0), .val (.int 114)] [(.int 255), (.int 114)]))
  refine own_to (fun _ kont => XS.icmpYes X0.here hx rfl (pc0 := 20) (pc' := 26) rfl (hb hby d5_20) rfl (flt (by decide)).2.2.2 (by decide) (by decide) kont) ?_
  show own_Ends _ _ _ _ (s₁.setTop (mkF m 26 #[.val (.ref ca), .val (.int 0), .val (.ref da), .val (.int 0), .val (.int 8), .val (.int 0), .val (.int 114)] []))
  refine own_to (fun _ kont => XS.aloadN X0.here hx rfl (hb hby d5_26) rfl rfl kont) ?_
  show own_Ends _ _ _ _ (s₁.setTop (mkF m 27 #[.val (.ref ca), .val (.int 0), .val (.ref da), .val (.int 0), .val (.int 8), .val (.int 0), .val (.int 114)] [(.ref da)]))
  refine own_to (fun _ kont => XS.iloadN X0.here hx rfl (hb hby d5_27) rfl kont) ?_
  show own_Ends _ _ _ _ (s₁.setTop (mkF m 28 #[.val (.ref ca), .val (.int 0), .val (.ref da), .val (.int 0), .val (.int 8), .val (.int 0), .val (.int 114)] [(.int 0), (.ref da)]))
  refine own_to (fun _ kont => XS.iload X0.here hx rfl (hb hby d5_28) rfl kont) ?_
  show own_Ends _ _ _ _ (s₁.setTop (mkF m 30 #[.val (.ref ca), .val (.int 0), .val (.ref da), .val (.int 0), .val (.int 8), .val (.int 0), .val (.int 114)] [(.int 114), (.int 0), (.ref da)]))
  refine own_to (fun _ kont => XS.i2b X0.here hx rfl (hb hby d5_30) rfl kont) ?_
  show own_Ends _ _ _ _ (s₁.setTop (mkF m 31 #[.val (.ref ca), .val (.int 0), .val (.ref da), .val (.int 0), .val (.int 8), .val (.int 0), .val (.int 114)] [(.int 114), (.int 0), (.ref da)]))
  obtain ⟨cl2, Ar2, q2, S2, M2, H2, G2⟩ := id V_d
  have hin2 : ¬ ((0 : Int32) < 0 ∨ cl2.slots.size ≤ ((0 : Int32)).toNatClampNeg) := inb_of S2 ⟨by decide, by decide⟩
  obtain ⟨T2, h2, X2, e2, W2, st2⟩ := stB X0 hx hZ e0 Ar2 (j := (0 : Int32)) hin2 (g := (mkF m 31 #[.val (.ref ca), .val (.int (0 : Int32)), .val (.ref da), .val (.int (0 : Int32)), .val (.int (8 : Int32)), .val (.int (0 : Int32)), .val (.int (114 : Int32))] [(.int (114 : Int32)), (.int (0 : Int32)), (.ref da)])) rfl rfl (hb hby d5_31)
  have Vs2 : Arv Z h2 da kd .byte (8 : Int32) [(.int (114 : Int32)), (.int (0 : Int32)), (.int (0 : Int32)), (.int (0 : Int32)), (.int (0 : Int32)), (.int (0 : Int32)), (.int (0 : Int32)), (.int (0 : Int32))] (.int (0 : Int32)) := Arv.set Ar2 q2 S2 M2 H2 G2 (fits_nar_byte _) W2 0 rfl (own_lt rfl)
  refine own_to st2 ?_
  have O2 := O0.wr W2 g_da
  have N2 := Fr.snoc X2 N0 g_da
  have K2 := K0.wr W2 (Or.inl (List.mem_of_getElem? (i := 0) rfl))
  show own_Ends _ _ _ _ (T2.setTop (mkF m 32 #[.val (.ref ca), .val (.int 0), .val (.ref da), .val (.int 0), .val (.int 8), .val (.int 0), .val (.int 114)] []))
  refine own_to (fun _ kont => XS.iinc X2.here hx rfl (hb hby d5_32) rfl (l' := #[.val (.ref ca), .val (.int (1 : Int32)), .val (.ref da), .val (.int (0 : Int32)), .val (.int (8 : Int32)), .val (.int (0 : Int32)), .val (.int (114 : Int32))]) rfl kont) ?_
  show own_Ends _ _ _ _ (T2.setTop (mkF m 35 #[.val (.ref ca), .val (.int 1), .val (.ref da), .val (.int 0), .val (.int 8), .val (.int 0), .val (.int 114)] []))
  refine own_to (fun _ kont => XS.iinc X2.here hx rfl (hb hby d5_35) rfl (l' := #[.val (.ref ca), .val (.int (1 : Int32)), .val (.ref da), .val (.int (1 : Int32)), .val (.int (8 : Int32)), .val (.int (0 : Int32)), .val (.int (114 : Int32))]) rfl kont) ?_
  show own_Ends _ _ _ _ (T2.setTop (mkF m 38 #[.val (.ref ca), .val (.int 1), .val (.ref da), .val (.int 1), .val (.int 8), .val (.int 0), .val (.int 114)] []))
  refine own_to (fun _ kont => XS.iinc X2.here hx rfl (hb hby d5_38) rfl (l' := #[.val (.ref ca), .val (.int (1 : Int32)), .val (.ref da), .val (.int (1 : Int32)), .val (.int (8 : Int32)), .val (.int (1 : Int32)), .val (.int (114 : Int32))]) rfl kont) ?_
  show own_Ends _ _ _ _ (T2.setTop (mkF m 41 #[.val (.ref ca), .val (.int 1), .val (.ref da), .val (.int 1), .val (.int 8), .val (.int 1), .val (.int 114)] []))
  refine own_to (fun _ kont => XS.goto X2.here hx rfl (pc0 := 41) (pc' := 3) rfl (hb hby d5_41) (by decide) (by decide) kont) ?_
  show own_Ends _ _ _ _ (T2.setTop (mkF m 3 #[.val (.ref ca), .val (.int 1), .val (.ref da), .val (.int 1), .val (.int 8), .val (.int 1), .val (.int 114)] []))
  refine own_to (fun _ kont => XS.iload X2.here hx rfl (hb hby d5_3) rfl kont) ?_
  show own_Ends _ _ _ _ (T2.setTop (mkF m 5 #[.val (.ref ca), .val (.int 1), .val (.ref da), .val (.int 1), .val (.int 8), .val (.int 1), .val (.int 114)] [(.int 1)]))
  refine own_to (fun _ kont => XS.iload X2.here hx rfl (hb hby d5_5) rfl kont) ?_
  show own_Ends _ _ _ _ (T2.setTop (mkF m 7 #[.val (.ref ca), .val (.int 1), .val (.ref da), .val (.int 1), .val (.int 8), .val (.int 1), .val (.int 114)] [(.int 8), (.int 1)]))
  refine own_to (fun _ kont => XS.icmpNo X2.here hx rfl (hb hby d5_7) rfl (tlt (by decide)).2.1 kont) ?_
  show own_Ends _ _ _ _ (T2.setTop (mkF m 10 #[.val (.ref ca), .val (.int 1), .val (.ref da), .val (.int 1), .val (.int 8), .val (.int 1), .val (.int 114)] []))
  refine own_to (fun _ kont => XS.aloadN X2.here hx rfl (hb hby d5_10) rfl rfl kont) ?_
  show own_Ends _ _ _ _ (T2.setTop (mkF m 11 #[.val (.ref ca), .val (.int 1), .val (.ref da), .val (.int 1), .val (.int 8), .val (.int 1), .val (.int 114)] [(.ref ca)]))
  refine own_to (fun _ kont => XS.iloadN X2.here hx rfl (hb hby d5_11) rfl kont) ?_
  show own_Ends _ _ _ _ (T2.setTop (mkF m 12 #[.val (.ref ca), .val (.int 1), .val (.ref da), .val (.int 1), .val (.int 8), .val (.int 1), .val (.int 114)] [(.int 1), (.ref ca)]))
  obtain ⟨cl3, Ar3, q3, S3, M3, H3, G3⟩ := id (V_c.other W2 ne_ca_da)
  have hin3 : ¬ ((1 : Int32) < 0 ∨ cl3.slots.size ≤ ((1 : Int32)).toNatClampNeg) := inb_of S3 ⟨by decide, by decide⟩
  have hat3 : cl3.slots[((1 : Int32)).toNatClampNeg]? = some (.int (101 : Int32)) := Has.at H3 hin3 rfl
  refine own_to (fun _ kont => X2.caload hx (j := (1 : Int32)) (v := (.int (101 : Int32))) (by rw [e2]; exact Ar3.1) (State.isArrayOf_alike hZ.alike Ar3.2.1) Ar3.2.2 hin3 hat3 (g := (mkF m 12 #[.val (.ref ca), .val (.int (1 : Int32)), .val (.ref da), .val (.int (1 : Int32)), .val (.int (8 : Int32)), .val (.int (1 : Int32)), .val (.int (114 : Int32))] [(.int (1 : Int32)), (.ref ca)])) rfl rfl (hb hby d5_12) _ kont) ?_
  show own_Ends _ _ _ _ (T2.setTop (mkF m 13 #[.val (.ref ca), .val (.int 1), .val (.ref da), .val (.int 1), .val (.int 8), .val (.int 1), .val (.int 114)] [(.int 101)]))
  refine own_to (fun _ kont => XS.istore X2.here hx rfl (hb hby d5_13) rfl (l' := #[.val (.ref ca), .val (.int (1 : Int32)), .val (.ref da), .val (.int (1 : Int32)), .val (.int (8 : Int32)), .val (.int (1 : Int32)), .val (.int (101 : Int32))]) rfl kont) ?_
  show own_Ends _ _ _ _ (T2.setTop (mkF m 15 #[.val (.ref ca), .val (.int 1), .val (.ref da), .val (.int 1), .val (.int 8), .val (.int 1), .val (.int 101)] []))
  refine own_to (fun _ kont => XS.iload X2.here hx rfl (hb hby d5_15) rfl kont) ?_
  show own_Ends _ _ _ _ (T2.setTop (mkF m 17 #[.val (.ref ca), .val (.int 1), .val (.ref da), .val (.int 1), .val (.int 8), .val (.int 1), .val (.int 101)] [(.int 101)]))
  refine own_to (fun _ kont => XS.sipush X2.here hx rfl (hb hby d5_17) kont) ?_
  show own_Ends _ _ _ _ (T2.setTop (mkF m 20 #[.val (.ref ca), .val (.int 1), .val (.ref da), .val (.int 1), .val (.int 8), .val (.int 1), .val (.int 101)] [(.int 255), (.int 101)]))
  refine own_to (fun _ kont => XS.icmpYes X2.here hx rfl (pc0 := 20) (pc' := 26) rfl (hb hby d5_20) rfl (flt (by decide)).2.2.2 (by decide) (by decide) kont) ?_
  show own_Ends _ _ _ _ (T2.setTop (mkF m 26 #[.val (.ref ca), .val (.int 1), .val (.ref da), .val (.int 1), .val (.int 8), .val (.int 1), .val (.int 101)] []))
  refine own_to (fun _ kont => XS.aloadN X2.here hx rfl (hb hby d5_26) rfl rfl kont) ?_
  show own_Ends _ _ _ _ (T2.setTop (mkF m 27 #[.val (.ref ca), .val (.int 1), .val (.ref da), .val (.int 1), .val (.int 8), .val (.int 1), .val (.int 101)] [(.ref da)]))
  refine own_to (fun _ kont => XS.iloadN X2.here hx rfl (hb hby d5_27) rfl kont) ?_
  show own_Ends _ _ _ _ (T2.setTop (mkF m 28 #[.val (.ref ca), .val (.int 1), .val (.ref da), .val (.int 1), .val (.int 8), .val (.int 1), .val (.int 101)] [(.int 1), (.ref da)]))
  refine own_to (fun _ kont => XS.iload X2.here hx rfl (hb hby d5_28) rfl kont) ?_
  show own_Ends _ _ _ _ (T2.setTop (mkF m 30 #[.val (.ref ca), .val (.int 1), .val (.ref da), .val (.int 1), .val (.int 8), .val (.int 1), .val (.int 101)] [(.int 101), (.int 1), (.ref da)]))
  refine own_to (fun _ kont => XS.i2b X2.here hx rfl (hb hby d5_30) rfl kont) ?_
  show own_Ends _ _ _ _ (T2.setTop (mkF m 31 #[.val (.ref ca), .val (.int 1), .val (.ref da), .val (.int 1), .val (.int 8), .val (.int 1), .val (.int 101)] [(.int 101), (.int 1), (.ref da)]))
  obtain ⟨cl4, Ar4, q4, S4, M4, H4, G4⟩ := id Vs2
  have hin4 : ¬ ((1 : Int32) < 0 ∨ cl4.slots.size ≤ ((1 : Int32)).toNatClampNeg) := inb_of S4 ⟨by decide, by decide⟩
  obtain ⟨T4, h4, X4, e4, W4, st4⟩ := stB X2 hx hZ e2 Ar4 (j := (1 : Int32)) hin4 (g := (mkF m 31 #[.val (.ref ca), .val (.int (1 : Int32)), .val (.ref da), .val (.int (1 : Int32)), .val (.int (8 : Int32)), .val (.int (1 : Int32)), .val (.int (101 : Int32))] [(.int (101 : Int32)), (.int (1 : Int32)), (.ref da)])) rfl rfl (hb hby d5_31)
  have Vs4 : Arv Z h4 da kd .byte (8 : Int32) [(.int (114 : Int32)), (.int (101 : Int32)), (.int (0 : Int32)), (.int (0 : Int32)), (.int (0 : Int32)), (.int (0 : Int32)), (.int (0 : Int32)), (.int (0 : Int32))] (.int (0 : Int32)) := Arv.set Ar4 q4 S4 M4 H4 G4 (fits_nar_byte _) W4 1 rfl (own_lt rfl)
  refine own_to st4 ?_
  have O4 := O2.wr W4 g_da
  have N4 := Fr.snoc X4 N2 g_da
  have K4 := K2.wr W4 (Or.inl (List.mem_of_getElem? (i := 0) rfl))
  show own_Ends _ _ _ _ (T4.setTop (mkF m 32 #[.val (.ref ca), .val (.int 1), .val (.ref da), .val (.int 1), .val (.int 8), .val (.int 1), .val (.int 101)] []))
  refine own_to (fun _ kont => XS.iinc X4.here hx rfl (hb hby d5_32) rfl (l' := #[.val (.ref ca), .val (.int (2 : Int32)), .val (.ref da), .val (.int (1 : Int32)), .val (.int (8 : Int32)), .val (.int (1 : Int32)), .val (.int (101 : Int32))]) rfl kont) ?_
  show own_Ends _ _ _ _ (T4.setTop (mkF m 35 #[.val (.ref ca), .val (.int 2), .val (.ref da), .val (.int 1), .val (.int 8), .val (.int 1), .val (.int 101)] []))
  refine own_to (fun _ kont => XS.iinc X4.here hx rfl (hb hby d5_35) rfl (l' := #[.val (.ref ca), .val (.int (2 : Int32)), .val (.ref da), .val (.int (2 : Int32)), .val (.int (8 : Int32)), .val (.int (1 : Int32)), .val (.int (101 : Int32))]) rfl kont) ?_
  show own_Ends _ _ _ _ (T4.setTop (mkF m 38 #[.val (.ref ca), .val (.int 2), .val (.ref da), .val (.int 2), .val (.int 8), .val (.int 1), .val (.int 101)] []))
  refine own_to (fun _ kont => XS.iinc X4.here hx rfl (hb hby d5_38) rfl (l' := #[.val (.ref ca), .val (.int (2 : Int32)), .val (.ref da), .val (.int (2 : Int32)), .val (.int (8 : Int32)), .val (.int (2 : Int32)), .val (.int (101 : Int32))]) rfl kont) ?_
  show own_Ends _ _ _ _ (T4.setTop (mkF m 41 #[.val (.ref ca), .val (.int 2), .val (.ref da), .val (.int 2), .val (.int 8), .val (.int 2), .val (.int 101)] []))
  refine own_to (fun _ kont => XS.goto X4.here hx rfl (pc0 := 41) (pc' := 3) rfl (hb hby d5_41) (by decide) (by decide) kont) ?_
  show own_Ends _ _ _ _ (T4.setTop (mkF m 3 #[.val (.ref ca), .val (.int 2), .val (.ref da), .val (.int 2), .val (.int 8), .val (.int 2), .val (.int 101)] []))
  refine own_to (fun _ kont => XS.iload X4.here hx rfl (hb hby d5_3) rfl kont) ?_
  show own_Ends _ _ _ _ (T4.setTop (mkF m 5 #[.val (.ref ca), .val (.int 2), .val (.ref da), .val (.int 2), .val (.int 8), .val (.int 2), .val (.int 101)] [(.int 2)]))
  refine own_to (fun _ kont => XS.iload X4.here hx rfl (hb hby d5_5) rfl kont) ?_
  show own_Ends _ _ _ _ (T4.setTop (mkF m 7 #[.val (.ref ca), .val (.int 2), .val (.ref da), .val (.int 2), .val (.int 8), .val (.int 2), .val (.int 101)] [(.int 8), (.int 2)]))
  refine own_to (fun _ kont => XS.icmpNo X4.here hx rfl (hb hby d5_7) rfl (tlt (by decide)).2.1 kont) ?_
  show own_Ends _ _ _ _ (T4.setTop (mkF m 10 #[.val (.ref ca), .val (.int 2), .val (.ref da), .val (.int 2), .val (.int 8), .val (.int 2), .val (.int 101)] []))
  refine own_to (fun _ kont => XS.aloadN X4.here hx rfl (hb hby d5_10) rfl rfl kont) ?_
  show own_Ends _ _ _ _ (T4.setTop (mkF m 11 #[.val (.ref ca), .val (.int 2), .val (.ref da), .val (.int 2), .val (.int 8), .val (.int 2), .val (.int 101)] [(.ref ca)]))
  refine own_to (fun _ kont => XS.iloadN X4.here hx rfl (hb hby d5_11) rfl kont) ?_
  show own_Ends _ _ _ _ (T4.setTop (mkF m 12 #[.val (.ref ca), .val (.int 2), .val (.ref da), .val (.int 2), .val (.int 8), .val (.int 2), .val (.int 101)] [(.int 2), (.ref ca)]))
  obtain ⟨cl5, Ar5, q5, S5, M5, H5, G5⟩ := id ((V_c.other W2 ne_ca_da).other W4 ne_ca_da)
  have hin5 : ¬ ((2 : Int32) < 0 ∨ cl5.slots.size ≤ ((2 : Int32)).toNatClampNeg) := inb_of S5 ⟨by decide, by decide⟩
  have hat5 : cl5.slots[((2 : Int32)).toNatClampNeg]? = some (.int (103 : Int32)) := Has.at H5 hin5 rfl
  refine own_to (fun _ kont => X4.caload hx (j := (2 : Int32)) (v := (.int (103 : Int32))) (by rw [e4]; exact Ar5.1) (State.isArrayOf_alike hZ.alike Ar5.2.1) Ar5.2.2 hin5 hat5 (g := (mkF m 12 #[.val (.ref ca), .val (.int (2 : Int32)), .val (.ref da), .val (.int (2 : Int32)), .val (.int (8 : Int32)), .val (.int (2 : Int32)), .val (.int (101 : Int32))] [(.int (2 : Int32)), (.ref ca)])) rfl rfl (hb hby d5_12) _ kont) ?_
  show own_Ends _ _ _ _ (T4.setTop (mkF m 13 #[.val (.ref ca), .val (.int 2), .val (.ref da), .val (.int 2), .val (.int 8), .val (.int 2), .val (.int 101)] [(.int 103)]))
  refine own_to (fun _ kont => XS.istore X4.here hx rfl (hb hby d5_13) rfl (l' := #[.val (.ref ca), .val (.int (2 : Int32)), .val (.ref da), .val (.int (2 : Int32)), .val (.int (8 : Int32)), .val (.int (2 : Int32)), .val (.int (103 : Int32))]) rfl kont) ?_
  show own_Ends _ _ _ _ (T4.setTop (mkF m 15 #[.val (.ref ca), .val (.int 2), .val (.ref da), .val (.int 2), .val (.int 8), .val (.int 2), .val (.int 103)] []))
  refine own_to (fun _ kont => XS.iload X4.here hx rfl (hb hby d5_15) rfl kont) ?_
  show own_Ends _ _ _ _ (T4.setTop (mkF m 17 #[.val (.ref ca), .val (.int 2), .val (.ref da), .val (.int 2), .val (.int 8), .val (.int 2), .val (.int 103)] [(.int 103)]))
  refine own_to (fun _ kont => XS.sipush X4.here hx rfl (hb hby d5_17) kont) ?_
  show own_Ends _ _ _ _ (T4.setTop (mkF m 20 #[.val (.ref ca), .val (.int 2), .val (.ref da), .val (.int 2), .val (.int 8), .val (.int 2), .val (.int 103)] [(.int 255), (.int 103)]))
  refine own_to (fun _ kont => XS.icmpYes X4.here hx rfl (pc0 := 20) (pc' := 26) rfl (hb hby d5_20) rfl (flt (by decide)).2.2.2 (by decide) (by decide) kont) ?_
  show own_Ends _ _ _ _ (T4.setTop (mkF m 26 #[.val (.ref ca), .val (.int 2), .val (.ref da), .val (.int 2), .val (.int 8), .val (.int 2), .val (.int 103)] []))
  refine own_to (fun _ kont => XS.aloadN X4.here hx rfl (hb hby d5_26) rfl rfl kont) ?_
  show own_Ends _ _ _ _ (T4.setTop (mkF m 27 #[.val (.ref ca), .val (.int 2), .val (.ref da), .val (.int 2), .val (.int 8), .val (.int 2), .val (.int 103)] [(.ref da)]))
  refine own_to (fun _ kont => XS.iloadN X4.here hx rfl (hb hby d5_27) rfl kont) ?_
  show own_Ends _ _ _ _ (T4.setTop (mkF m 28 #[.val (.ref ca), .val (.int 2), .val (.ref da), .val (.int 2), .val (.int 8), .val (.int 2), .val (.int 103)] [(.int 2), (.ref da)]))
  refine own_to (fun _ kont => XS.iload X4.here hx rfl (hb hby d5_28) rfl kont) ?_
  show own_Ends _ _ _ _ (T4.setTop (mkF m 30 #[.val (.ref ca), .val (.int 2), .val (.ref da), .val (.int 2), .val (.int 8), .val (.int 2), .val (.int 103)] [(.int 103), (.int 2), (.ref da)]))
  refine own_to (fun _ kont => XS.i2b X4.here hx rfl (hb hby d5_30) rfl kont) ?_
  show own_Ends _ _ _ _ (T4.setTop (mkF m 31 #[.val (.ref ca), .val (.int 2), .val (.ref da), .val (.int 2), .val (.int 8), .val (.int 2), .val (.int 103)] [(.int 103), (.int 2), (.ref da)]))
  obtain ⟨cl6, Ar6, q6, S6, M6, H6, G6⟩ := id Vs4
  have hin6 : ¬ ((2 : Int32) < 0 ∨ cl6.slots.size ≤ ((2 : Int32)).toNatClampNeg) := inb_of S6 ⟨by decide, by decide⟩
  obtain ⟨T6, h6, X6, e6, W6, st6⟩ := stB X4 hx hZ e4 Ar6 (j := (2 : Int32)) hin6 (g := (mkF m 31 #[.val (.ref ca), .val (.int (2 : Int32)), .val (.ref da), .val (.int (2 : Int32)), .val (.int (8 : Int32)), .val (.int (2 : Int32)), .val (.int (103 : Int32))] [(.int (103 : Int32)), (.int (2 : Int32)), (.ref da)])) rfl rfl (hb hby d5_31)
  have Vs6 : Arv Z h6 da kd .byte (8 : Int32) [(.int (114 : Int32)), (.int (101 : Int32)), (.int (103 : Int32)), (.int (0 : Int32)), (.int (0 : Int32)), (.int (0 : Int32)), (.int (0 : Int32)), (.int (0 : Int32))] (.int (0 : Int32)) := Arv.set Ar6 q6 S6 M6 H6 G6 (fits_nar_byte _) W6 2 rfl (own_lt rfl)
  refine own_to st6 ?_
  have O6 := O4.wr W6 g_da
  have N6 := Fr.snoc X6 N4 g_da
  have K6 := K4.wr W6 (Or.inl (List.mem_of_getElem? (i := 0) rfl))
  show own_Ends _ _ _ _ (T6.setTop (mkF m 32 #[.val (.ref ca), .val (.int 2), .val (.ref da), .val (.int 2), .val (.int 8), .val (.int 2), .val (.int 103)] []))
  refine own_to (fun _ kont => XS.iinc X6.here hx rfl (hb hby d5_32) rfl (l' := #[.val (.ref ca), .val (.int (3 : Int32)), .val (.ref da), .val (.int (2 : Int32)), .val (.int (8 : Int32)), .val (.int (2 : Int32)), .val (.int (103 : Int32))]) rfl kont) ?_
  show own_Ends _ _ _ _ (T6.setTop (mkF m 35 #[.val (.ref ca), .val (.int 3), .val (.ref da), .val (.int 2), .val (.int 8), .val (.int 2), .val (.int 103)] []))
  refine own_to (fun _ kont => XS.iinc X6.here hx rfl (hb hby d5_35) rfl (l' := #[.val (.ref ca), .val (.int (3 : Int32)), .val (.ref da), .val (.int (3 : Int32)), .val (.int (8 : Int32)), .val (.int (2 : Int32)), .val (.int (103 : Int32))]) rfl kont) ?_
  show own_Ends _ _ _ _ (T6.setTop (mkF m 38 #[.val (.ref ca), .val (.int 3), .val (.ref da), .val (.int 3), .val (.int 8), .val (.int 2), .val (.int 103)] []))
  refine own_to (fun _ kont => XS.iinc X6.here hx rfl (hb hby d5_38) rfl (l' := #[.val (.ref ca), .val (.int (3 : Int32)), .val (.ref da), .val (.int (3 : Int32)), .val (.int (8 : Int32)), .val (.int (3 : Int32)), .val (.int (103 : Int32))]) rfl kont) ?_
  show own_Ends _ _ _ _ (T6.setTop (mkF m 41 #[.val (.ref ca), .val (.int 3), .val (.ref da), .val (.int 3), .val (.int 8), .val (.int 3), .val (.int 103)] []))
  refine own_to (fun _ kont => XS.goto X6.here hx rfl (pc0 := 41) (pc' := 3) rfl (hb hby d5_41) (by decide) (by decide) kont) ?_
  show own_Ends _ _ _ _ (T6.setTop (mkF m 3 #[.val (.ref ca), .val (.int 3), .val (.ref da), .val (.int 3), .val (.int 8), .val (.int 3), .val (.int 103)] []))
  refine own_to (fun _ kont => XS.iload X6.here hx rfl (hb hby d5_3) rfl kont) ?_
  show own_Ends _ _ _ _ (T6.setTop (mkF m 5 #[.val (.ref ca), .val (.int 3), .val (.ref da), .val (.int 3), .val (.int 8), .val (.int 3), .val (.int 103)] [(.int 3)]))
  refine own_to (fun _ kont => XS.iload X6.here hx rfl (hb hby d5_5) rfl kont) ?_
  show own_Ends _ _ _ _ (T6.setTop (mkF m 7 #[.val (.ref ca), .val (.int 3), .val (.ref da), .val (.int 3), .val (.int 8), .val (.int 3), .val (.int 103)] [(.int 8), (.int 3)]))
  refine own_to (fun _ kont => XS.icmpNo X6.here hx rfl (hb hby d5_7) rfl (tlt (by decide)).2.1 kont) ?_
  show own_Ends _ _ _ _ (T6.setTop (mkF m 10 #[.val (.ref ca), .val (.int 3), .val (.ref da), .val (.int 3), .val (.int 8), .val (.int 3), .val (.int 103)] []))
  refine own_to (fun _ kont => XS.aloadN X6.here hx rfl (hb hby d5_10) rfl rfl kont) ?_
  show own_Ends _ _ _ _ (T6.setTop (mkF m 11 #[.val (.ref ca), .val (.int 3), .val (.ref da), .val (.int 3), .val (.int 8), .val (.int 3), .val (.int 103)] [(.ref ca)]))
  refine own_to (fun _ kont => XS.iloadN X6.here hx rfl (hb hby d5_11) rfl kont) ?_
  show own_Ends _ _ _ _ (T6.setTop (mkF m 12 #[.val (.ref ca), .val (.int 3), .val (.ref da), .val (.int 3), .val (.int 8), .val (.int 3), .val (.int 103)] [(.int 3), (.ref ca)]))
  obtain ⟨cl7, Ar7, q7, S7, M7, H7, G7⟩ := id (((V_c.other W2 ne_ca_da).other W4 ne_ca_da).other W6 ne_ca_da)
  have hin7 : ¬ ((3 : Int32) < 0 ∨ cl7.slots.size ≤ ((3 : Int32)).toNatClampNeg) := inb_of S7 ⟨by decide, by decide⟩
  have hat7 : cl7.slots[((3 : Int32)).toNatClampNeg]? = some (.int (105 : Int32)) := Has.at H7 hin7 rfl
  refine own_to (fun _ kont => X6.caload hx (j := (3 : Int32)) (v := (.int (105 : Int32))) (by rw [e6]; exact Ar7.1) (State.isArrayOf_alike hZ.alike Ar7.2.1) Ar7.2.2 hin7 hat7 (g := (mkF m 12 #[.val (.ref ca), .val (.int (3 : Int32)), .val (.ref da), .val (.int (3 : Int32)), .val (.int (8 : Int32)), .val (.int (3 : Int32)), .val (.int (103 : Int32))] [(.int (3 : Int32)), (.ref ca)])) rfl rfl (hb hby d5_12) _ kont) ?_
  show own_Ends _ _ _ _ (T6.setTop (mkF m 13 #[.val (.ref ca), .val (.int 3), .val (.ref da), .val (.int 3), .val (.int 8), .val (.int 3), .val (.int 103)] [(.int 105)]))
  refine own_to (fun _ kont => XS.istore X6.here hx rfl (hb hby d5_13) rfl (l' := #[.val (.ref ca), .val (.int (3 : Int32)), .val (.ref da), .val (.int (3 : Int32)), .val (.int (8 : Int32)), .val (.int (3 : Int32)), .val (.int (105 : Int32))]) rfl kont) ?_
  show own_Ends _ _ _ _ (T6.setTop (mkF m 15 #[.val (.ref ca), .val (.int 3), .val (.ref da), .val (.int 3), .val (.int 8), .val (.int 3), .val (.int 105)] []))
  refine own_to (fun _ kont => XS.iload X6.here hx rfl (hb hby d5_15) rfl kont) ?_
  show own_Ends _ _ _ _ (T6.setTop (mkF m 17 #[.val (.ref ca), .val (.int 3), .val (.ref da), .val (.int 3), .val (.int 8), .val (.int 3), .val (.int 105)] [(.int 105)]))
  refine own_to (fun _ kont => XS.sipush X6.here hx rfl (hb hby d5_17) kont) ?_
  show own_Ends _ _ _ _ (T6.setTop (mkF m 20 #[.val (.ref ca), .val (.int 3), .val (.ref da), .val (.int 3), .val (.int 8), .val (.int 3), .val (.int 105)] [(.int 255), (.int 105)]))
  refine own_to (fun _ kont => XS.icmpYes X6.here hx rfl (pc0 := 20) (pc' := 26) rfl (hb hby d5_20) rfl (flt (by decide)).2.2.2 (by decide) (by decide) kont) ?_
  show own_Ends _ _ _ _ (T6.setTop (mkF m 26 #[.val (.ref ca), .val (.int 3), .val (.ref da), .val (.int 3), .val (.int 8), .val (.int 3), .val (.int 105)] []))
  refine own_to (fun _ kont => XS.aloadN X6.here hx rfl (hb hby d5_26) rfl rfl kont) ?_
  show own_Ends _ _ _ _ (T6.setTop (mkF m 27 #[.val (.ref ca), .val (.int 3), .val (.ref da), .val (.int 3), .val (.int 8), .val (.int 3), .val (.int 105)] [(.ref da)]))
  refine own_to (fun _ kont => XS.iloadN X6.here hx rfl (hb hby d5_27) rfl kont) ?_
  show own_Ends _ _ _ _ (T6.setTop (mkF m 28 #[.val (.ref ca), .val (.int 3), .val (.ref da), .val (.int 3), .val (.int 8), .val (.int 3), .val (.int 105)] [(.int 3), (.ref da)]))
  refine own_to (fun _ kont => XS.iload X6.here hx rfl (hb hby d5_28) rfl kont) ?_
  show own_Ends _ _ _ _ (T6.setTop (mkF m 30 #[.val (.ref ca), .val (.int 3), .val (.ref da), .val (.int 3), .val (.int 8), .val (.int 3), .val (.int 105)] [(.int 105), (.int 3), (.ref da)]))
  refine own_to (fun _ kont => XS.i2b X6.here hx rfl (hb hby d5_30) rfl kont) ?_
  show own_Ends _ _ _ _ (T6.setTop (mkF m 31 #[.val (.ref ca), .val (.int 3), .val (.ref da), .val (.int 3), .val (.int 8), .val (.int 3), .val (.int 105)] [(.int 105), (.int 3), (.ref da)]))
  obtain ⟨cl8, Ar8, q8, S8, M8, H8, G8⟩ := id Vs6
  have hin8 : ¬ ((3 : Int32) < 0 ∨ cl8.slots.size ≤ ((3 : Int32)).toNatClampNeg) := inb_of S8 ⟨by decide, by decide⟩
  obtain ⟨T8, h8, X8, e8, W8, st8⟩ := stB X6 hx hZ e6 Ar8 (j := (3 : Int32)) hin8 (g := (mkF m 31 #[.val (.ref ca), .val (.int (3 : Int32)), .val (.ref da), .val (.int (3 : Int32)), .val (.int (8 : Int32)), .val (.int (3 : Int32)), .val (.int (105 : Int32))] [(.int (105 : Int32)), (.int (3 : Int32)), (.ref da)])) rfl rfl (hb hby d5_31)
  have Vs8 : Arv Z h8 da kd .byte (8 : Int32) [(.int (114 : Int32)), (.int (101 : Int32)), (.int (103 : Int32)), (.int (105 : Int32)), (.int (0 : Int32)), (.int (0 : Int32)), (.int (0 : Int32)), (.int (0 : Int32))] (.int (0 : Int32)) := Arv.set Ar8 q8 S8 M8 H8 G8 (fits_nar_byte _) W8 3 rfl (own_lt rfl)
  refine own_to st8 ?_
  have O8 := O6.wr W8 g_da
  have N8 := Fr.snoc X8 N6 g_da
  have K8 := K6.wr W8 (Or.inl (List.mem_of_getElem? (i := 0) rfl))
  show own_Ends _ _ _ _ (T8.setTop (mkF m 32 #[.val (.ref ca), .val (.int 3), .val (.ref da), .val (.int 3), .val (.int 8), .val (.int 3), .val (.int 105)] []))
  refine own_to (fun _ kont => XS.iinc X8.here hx rfl (hb hby d5_32) rfl (l' := #[.val (.ref ca), .val (.int (4 : Int32)), .val (.ref da), .val (.int (3 : Int32)), .val (.int (8 : Int32)), .val (.int (3 : Int32)), .val (.int (105 : Int32))]) rfl kont) ?_
  show own_Ends _ _ _ _ (T8.setTop (mkF m 35 #[.val (.ref ca), .val (.int 4), .val (.ref da), .val (.int 3), .val (.int 8), .val (.int 3), .val (.int 105)] []))
  refine own_to (fun _ kont => XS.iinc X8.here hx rfl (hb hby d5_35) rfl (l' := #[.val (.ref ca), .val (.int (4 : Int32)), .val (.ref da), .val (.int (4 : Int32)), .val (.int (8 : Int32)), .val (.int (3 : Int32)), .val (.int (105 : Int32))]) rfl kont) ?_
  show own_Ends _ _ _ _ (T8.setTop (mkF m 38 #[.val (.ref ca), .val (.int 4), .val (.ref da), .val (.int 4), .val (.int 8), .val (.int 3), .val (.int 105)] []))
  refine own_to (fun _ kont => XS.iinc X8.here hx rfl (hb hby d5_38) rfl (l' := #[.val (.ref ca), .val (.int (4 : Int32)), .val (.ref da), .val (.int (4 : Int32)), .val (.int (8 : Int32)), .val (.int (4 : Int32)), .val (.int (105 : Int32))]) rfl kont) ?_
  show own_Ends _ _ _ _ (T8.setTop (mkF m 41 #[.val (.ref ca), .val (.int 4), .val (.ref da), .val (.int 4), .val (.int 8), .val (.int 4), .val (.int 105)] []))
  refine own_to (fun _ kont => XS.goto X8.here hx rfl (pc0 := 41) (pc' := 3) rfl (hb hby d5_41) (by decide) (by decide) kont) ?_
  show own_Ends _ _ _ _ (T8.setTop (mkF m 3 #[.val (.ref ca), .val (.int 4), .val (.ref da), .val (.int 4), .val (.int 8), .val (.int 4), .val (.int 105)] []))
  refine own_to (fun _ kont => XS.iload X8.here hx rfl (hb hby d5_3) rfl kont) ?_
  show own_Ends _ _ _ _ (T8.setTop (mkF m 5 #[.val (.ref ca), .val (.int 4), .val (.ref da), .val (.int 4), .val (.int 8), .val (.int 4), .val (.int 105)] [(.int 4)]))
  refine own_to (fun _ kont => XS.iload X8.here hx rfl (hb hby d5_5) rfl kont) ?_
  show own_Ends _ _ _ _ (T8.setTop (mkF m 7 #[.val (.ref ca), .val (.int 4), .val (.ref da), .val (.int 4), .val (.int 8), .val (.int 4), .val (.int 105)] [(.int 8), (.int 4)]))
  refine own_to (fun _ kont => XS.icmpNo X8.here hx rfl (hb hby d5_7) rfl (tlt (by decide)).2.1 kont) ?_
  show own_Ends _ _ _ _ (T8.setTop (mkF m 10 #[.val (.ref ca), .val (.int 4), .val (.ref da), .val (.int 4), .val (.int 8), .val (.int 4), .val (.int 105)] []))
  refine own_to (fun _ kont => XS.aloadN X8.here hx rfl (hb hby d5_10) rfl rfl kont) ?_
  show own_Ends _ _ _ _ (T8.setTop (mkF m 11 #[.val (.ref ca), .val (.int 4), .val (.ref da), .val (.int 4), .val (.int 8), .val (.int 4), .val (.int 105)] [(.ref ca)]))
  refine own_to (fun _ kont => XS.iloadN X8.here hx rfl (hb hby d5_11) rfl kont) ?_
  show own_Ends _ _ _ _ (T8.setTop (mkF m 12 #[.val (.ref ca), .val (.int 4), .val (.ref da), .val (.int 4), .val (.int 8), .val (.int 4), .val (.int 105)] [(.int 4), (.ref ca)]))
  obtain ⟨cl9, Ar9, q9, S9, M9, H9, G9⟩ := id ((((V_c.other W2 ne_ca_da).other W4 ne_ca_da).other W6 ne_ca_da).other W8 ne_ca_da)
  have hin9 : ¬ ((4 : Int32) < 0 ∨ cl9.slots.size ≤ ((4 : Int32)).toNatClampNeg) := inb_of S9 ⟨by decide, by decide⟩
  have hat9 : cl9.slots[((4 : Int32)).toNatClampNeg]? = some (.int (115 : Int32)) := Has.at H9 hin9 rfl
  refine own_to (fun _ kont => X8.caload hx (j := (4 : Int32)) (v := (.int (115 : Int32))) (by rw [e8]; exact Ar9.1) (State.isArrayOf_alike hZ.alike Ar9.2.1) Ar9.2.2 hin9 hat9 (g := (mkF m 12 #[.val (.ref ca), .val (.int (4 : Int32)), .val (.ref da), .val (.int (4 : Int32)), .val (.int (8 : Int32)), .val (.int (4 : Int32)), .val (.int (105 : Int32))] [(.int (4 : Int32)), (.ref ca)])) rfl rfl (hb hby d5_12) _ kont) ?_
  show own_Ends _ _ _ _ (T8.setTop (mkF m 13 #[.val (.ref ca), .val (.int 4), .val (.ref da), .val (.int 4), .val (.int 8), .val (.int 4), .val (.int 105)] [(.int 115)]))
  refine own_to (fun _ kont => XS.istore X8.here hx rfl (hb hby d5_13) rfl (l' := #[.val (.ref ca), .val (.int (4 : Int32)), .val (.ref da), .val (.int (4 : Int32)), .val (.int (8 : Int32)), .val (.int (4 : Int32)), .val (.int (115 : Int32))]) rfl kont) ?_
  show own_Ends _ _ _ _ (T8.setTop (mkF m 15 #[.val (.ref ca), .val (.int 4), .val (.ref da), .val (.int 4), .val (.int 8), .val (.int 4), .val (.int 115)] []))
  refine own_to (fun _ kont => XS.iload X8.here hx rfl (hb hby d5_15) rfl kont) ?_
  show own_Ends _ _ _ _ (T8.setTop (mkF m 17 #[.val (.ref ca), .val (.int 4), .val (.ref da), .val (.int 4), .val (.int 8), .val (.int 4), .val (.int 115)] [(.int 115)]))
  refine own_to (fun _ kont => XS.sipush X8.here hx rfl (hb hby d5_17) kont) ?_
  show own_Ends _ _ _ _ (T8.setTop (mkF m 20 #[.val (.ref ca), .val (.int 4), .val (.ref da), .val (.int 4), .val (.int 8), .val (.int 4), .val (.int 115)] [(.int 255), (.int 115)]))
  refine own_to (fun _ kont => XS.icmpYes X8.here hx rfl (pc0 := 20) (pc' := 26) rfl (hb hby d5_20) rfl (flt (by decide)).2.2.2 (by decide) (by decide) kont) ?_
  show own_Ends _ _ _ _ (T8.setTop (mkF m 26 #[.val (.ref ca), .val (.int 4), .val (.ref da), .val (.int 4), .val (.int 8), .val (.int 4), .val (.int 115)] []))
  refine own_to (fun _ kont => XS.aloadN X8.here hx rfl (hb hby d5_26) rfl rfl kont) ?_
  show own_Ends _ _ _ _ (T8.setTop (mkF m 27 #[.val (.ref ca), .val (.int 4), .val (.ref da), .val (.int 4), .val (.int 8), .val (.int 4), .val (.int 115)] [(.ref da)]))
  refine own_to (fun _ kont => XS.iloadN X8.here hx rfl (hb hby d5_27) rfl kont) ?_
  show own_Ends _ _ _ _ (T8.setTop (mkF m 28 #[.val (.ref ca), .val (.int 4), .val (.ref da), .val (.int 4), .val (.int 8), .val (.int 4), .val (.int 115)] [(.int 4), (.ref da)]))
  refine own_to (fun _ kont => XS.iload X8.here hx rfl (hb hby d5_28) rfl kont) ?_
  show own_Ends _ _ _ _ (T8.setTop (mkF m 30 #[.val (.ref ca), .val (.int 4), .val (.ref da), .val (.int 4), .val (.int 8), .val (.int 4), .val (.int 115)] [(.int 115), (.int 4), (.ref da)]))
  refine own_to (fun _ kont => XS.i2b X8.here hx rfl (hb hby d5_30) rfl kont) ?_
  show own_Ends _ _ _ _ (T8.setTop (mkF m 31 #[.val (.ref ca), .val (.int 4), .val (.ref da), .val (.int 4), .val (.int 8), .val (.int 4), .val (.int 115)] [(.int 115), (.int 4), (.ref da)]))
  obtain ⟨cl10, Ar10, q10, S10, M10, H10, G10⟩ := id Vs8
  have hin10 : ¬ ((4 : Int32) < 0 ∨ cl10.slots.size ≤ ((4 : Int32)).toNatClampNeg) := inb_of S10 ⟨by decide, by decide⟩
  obtain ⟨T10, h10, X10, e10, W10, st10⟩ := stB X8 hx hZ e8 Ar10 (j := (4 : Int32)) hin10 (g := (mkF m 31 #[.val (.ref ca), .val (.int (4 : Int32)), .val (.ref da), .val (.int (4 : Int32)), .val (.int (8 : Int32)), .val (.int (4 : Int32)), .val (.int (115 : Int32))] [(.int (115 : Int32)), (.int (4 : Int32)), (.ref da)])) rfl rfl (hb hby d5_31)
  have Vs10 : Arv Z h10 da kd .byte (8 : Int32) [(.int (114 : Int32)), (.int (101 : Int32)), (.int (103 : Int32)), (.int (105 : Int32)), (.int (115 : Int32)), (.int (0 : Int32)), (.int (0 : Int32)), (.int (0 : Int32))] (.int (0 : Int32)) := Arv.set Ar10 q10 S10 M10 H10 G10 (fits_nar_byte _) W10 4 rfl (own_lt rfl)
  refine own_to st10 ?_
  have O10 := O8.wr W10 g_da
  have N10 := Fr.snoc X10 N8 g_da
  have K10 := K8.wr W10 (Or.inl (List.mem_of_getElem? (i := 0) rfl))
  show own_Ends _ _ _ _ (T10.setTop (mkF m 32 #[.val (.ref ca), .val (.int 4), .val (.ref da), .val (.int 4), .val (.int 8), .val (.int 4), .val (.int 115)] []))
  refine own_to (fun _ kont => XS.iinc X10.here hx rfl (hb hby d5_32) rfl (l' := #[.val (.ref ca), .val (.int (5 : Int32)), .val (.ref da), .val (.int (4 : Int32)), .val (.int (8 : Int32)), .val (.int (4 : Int32)), .val (.int (115 : Int32))]) rfl kont) ?_
  show own_Ends _ _ _ _ (T10.setTop (mkF m 35 #[.val (.ref ca), .val (.int 5), .val (.ref da), .val (.int 4), .val (.int 8), .val (.int 4), .val (.int 115)] []))
  refine own_to (fun _ kont => XS.iinc X10.here hx rfl (hb hby d5_35) rfl (l' := #[.val (.ref ca), .val (.int (5 : Int32)), .val (.ref da), .val (.int (5 : Int32)), .val (.int (8 : Int32)), .val (.int (4 : Int32)), .val (.int (115 : Int32))]) rfl kont) ?_
  show own_Ends _ _ _ _ (T10.setTop (mkF m 38 #[.val (.ref ca), .val (.int 5), .val (.ref da), .val (.int 5), .val (.int 8), .val (.int 4), .val (.int 115)] []))
  refine own_to (fun _ kont => XS.iinc X10.here hx rfl (hb hby d5_38) rfl (l' := #[.val (.ref ca), .val (.int (5 : Int32)), .val (.ref da), .val (.int (5 : Int32)), .val (.int (8 : Int32)), .val (.int (5 : Int32)), .val (.int (115 : Int32))]) rfl kont) ?_
  show own_Ends _ _ _ _ (T10.setTop (mkF m 41 #[.val (.ref ca), .val (.int 5), .val (.ref da), .val (.int 5), .val (.int 8), .val (.int 5), .val (.int 115)] []))
  refine own_to (fun _ kont => XS.goto X10.here hx rfl (pc0 := 41) (pc' := 3) rfl (hb hby d5_41) (by decide) (by decide) kont) ?_
  show own_Ends _ _ _ _ (T10.setTop (mkF m 3 #[.val (.ref ca), .val (.int 5), .val (.ref da), .val (.int 5), .val (.int 8), .val (.int 5), .val (.int 115)] []))
  refine own_to (fun _ kont => XS.iload X10.here hx rfl (hb hby d5_3) rfl kont) ?_
  show own_Ends _ _ _ _ (T10.setTop (mkF m 5 #[.val (.ref ca), .val (.int 5), .val (.ref da), .val (.int 5), .val (.int 8), .val (.int 5), .val (.int 115)] [(.int 5)]))
  refine own_to (fun _ kont => XS.iload X10.here hx rfl (hb hby d5_5) rfl kont) ?_
  show own_Ends _ _ _ _ (T10.setTop (mkF m 7 #[.val (.ref ca), .val (.int 5), .val (.ref da), .val (.int 5), .val (.int 8), .val (.int 5), .val (.int 115)] [(.int 8), (.int 5)]))
  refine own_to (fun _ kont => XS.icmpNo X10.here hx rfl (hb hby d5_7) rfl (tlt (by decide)).2.1 kont) ?_
  show own_Ends _ _ _ _ (T10.setTop (mkF m 10 #[.val (.ref ca), .val (.int 5), .val (.ref da), .val (.int 5), .val (.int 8), .val (.int 5), .val (.int 115)] []))
  refine own_to (fun _ kont => XS.aloadN X10.here hx rfl (hb hby d5_10) rfl rfl kont) ?_
  show own_Ends _ _ _ _ (T10.setTop (mkF m 11 #[.val (.ref ca), .val (.int 5), .val (.ref da), .val (.int 5), .val (.int 8), .val (.int 5), .val (.int 115)] [(.ref ca)]))
  refine own_to (fun _ kont => XS.iloadN X10.here hx rfl (hb hby d5_11) rfl kont) ?_
  show own_Ends _ _ _ _ (T10.setTop (mkF m 12 #[.val (.ref ca), .val (.int 5), .val (.ref da), .val (.int 5), .val (.int 8), .val (.int 5), .val (.int 115)] [(.int 5), (.ref ca)]))
  obtain ⟨cl11, Ar11, q11, S11, M11, H11, G11⟩ := id (((((V_c.other W2 ne_ca_da).other W4 ne_ca_da).other W6 ne_ca_da).other W8 ne_ca_da).other W10 ne_ca_da)
  have hin11 : ¬ ((5 : Int32) < 0 ∨ cl11.slots.size ≤ ((5 : Int32)).toNatClampNeg) := inb_of S11 ⟨by decide, by decide⟩
  have hat11 : cl11.slots[((5 : Int32)).toNatClampNeg]? = some (.int (116 : Int32)) := Has.at H11 hin11 rfl
  refine own_to (fun _ kont => X10.caload hx (j := (5 : Int32)) (v := (.int (116 : Int32))) (by rw [e10]; exact Ar11.1) (State.isArrayOf_alike hZ.alike Ar11.2.1) Ar11.2.2 hin11 hat11 (g := (mkF m 12 #[.val (.ref ca), .val (.int (5 : Int32)), .val (.ref da), .val (.int (5 : Int32)), .val (.int (8 : Int32)), .val (.int (5 : Int32)), .val (.int (115 : Int32))] [(.int (5 : Int32)), (.ref ca)])) rfl rfl (hb hby d5_12) _ kont) ?_
  show own_Ends _ _ _ _ (T10.setTop (mkF m 13 #[.val (.ref ca), .val (.int 5), .val (.ref da), .val (.int 5), .val (.int 8), .val (.int 5), .val (.int 115)] [(.int 116)]))
  refine own_to (fun _ kont => XS.istore X10.here hx rfl (hb hby d5_13) rfl (l' := #[.val (.ref ca), .val (.int (5 : Int32)), .val (.ref da), .val (.int (5 : Int32)), .val (.int (8 : Int32)), .val (.int (5 : Int32)), .val (.int (116 : Int32))]) rfl kont) ?_
  show own_Ends _ _ _ _ (T10.setTop (mkF m 15 #[.val (.ref ca), .val (.int 5), .val (.ref da), .val (.int 5), .val (.int 8), .val (.int 5), .val (.int 116)] []))
  refine own_to (fun _ kont => XS.iload X10.here hx rfl (hb hby d5_15) rfl kont) ?_
  show own_Ends _ _ _ _ (T10.setTop (mkF m 17 #[.val (.ref ca), .val (.int 5), .val (.ref da), .val (.int 5), .val (.int 8), .val (.int 5), .val (.int 116)] [(.int 116)]))
  refine own_to (fun _ kont => XS.sipush X10.here hx rfl (hb hby d5_17) kont) ?_
  show own_Ends _ _ _ _ (T10.setTop (mkF m 20 #[.val (.ref ca), .val (.int 5), .val (.ref da), .val (.int 5), .val (.int 8), .val (.int 5), .val (.int 116)] [(.int 255), (.int 116)]))
  refine own_to (fun _ kont => XS.icmpYes X10.here hx rfl (pc0 := 20) (pc' := 26) rfl (hb hby d5_20) rfl (flt (by decide)).2.2.2 (by decide) (by decide) kont) ?_
  show own_Ends _ _ _ _ (T10.setTop (mkF m 26 #[.val (.ref ca), .val (.int 5), .val (.ref da), .val (.int 5), .val (.int 8), .val (.int 5), .val (.int 116)] []))
  refine own_to (fun _ kont => XS.aloadN X10.here hx rfl (hb hby d5_26) rfl rfl kont) ?_
  show own_Ends _ _ _ _ (T10.setTop (mkF m 27 #[.val (.ref ca), .val (.int 5), .val (.ref da), .val (.int 5), .val (.int 8), .val (.int 5), .val (.int 116)] [(.ref da)]))
  refine own_to (fun _ kont => XS.iloadN X10.here hx rfl (hb hby d5_27) rfl kont) ?_
  show own_Ends _ _ _ _ (T10.setTop (mkF m 28 #[.val (.ref ca), .val (.int 5), .val (.ref da), .val (.int 5), .val (.int 8), .val (.int 5), .val (.int 116)] [(.int 5), (.ref da)]))
  refine own_to (fun _ kont => XS.iload X10.here hx rfl (hb hby d5_28) rfl kont) ?_
  show own_Ends _ _ _ _ (T10.setTop (mkF m 30 #[.val (.ref ca), .val (.int 5), .val (.ref da), .val (.int 5), .val (.int 8), .val (.int 5), .val (.int 116)] [(.int 116), (.int 5), (.ref da)]))
  refine own_to (fun _ kont => XS.i2b X10.here hx rfl (hb hby d5_30) rfl kont) ?_
  show own_Ends _ _ _ _ (T10.setTop (mkF m 31 #[.val (.ref ca), .val (.int 5), .val (.ref da), .val (.int 5), .val (.int 8), .val (.int 5), .val (.int 116)] [(.int 116), (.int 5), (.ref da)]))
  obtain ⟨cl12, Ar12, q12, S12, M12, H12, G12⟩ := id Vs10
  have hin12 : ¬ ((5 : Int32) < 0 ∨ cl12.slots.size ≤ ((5 : Int32)).toNatClampNeg) := inb_of S12 ⟨by decide, by decide⟩
  obtain ⟨T12, h12, X12, e12, W12, st12⟩ := stB X10 hx hZ e10 Ar12 (j := (5 : Int32)) hin12 (g := (mkF m 31 #[.val (.ref ca), .val (.int (5 : Int32)), .val (.ref da), .val (.int (5 : Int32)), .val (.int (8 : Int32)), .val (.int (5 : Int32)), .val (.int (116 : Int32))] [(.int (116 : Int32)), (.int (5 : Int32)), (.ref da)])) rfl rfl (hb hby d5_31)
  have Vs12 : Arv Z h12 da kd .byte (8 : Int32) [(.int (114 : Int32)), (.int (101 : Int32)), (.int (103 : Int32)), (.int (105 : Int32)), (.int (115 : Int32)), (.int (116 : Int32)), (.int (0 : Int32)), (.int (0 : Int32))] (.int (0 : Int32)) := Arv.set Ar12 q12 S12 M12 H12 G12 (fits_nar_byte _) W12 5 rfl (own_lt rfl)
  refine own_to st12 ?_
  have O12 := O10.wr W12 g_da
  have N12 := Fr.snoc X12 N10 g_da
  have K12 := K10.wr W12 (Or.inl (List.mem_of_getElem? (i := 0) rfl))
  show own_Ends _ _ _ _ (T12.setTop (mkF m 32 #[.val (.ref ca), .val (.int 5), .val (.ref da), .val (.int 5), .val (.int 8), .val (.int 5), .val (.int 116)] []))
  refine own_to (fun _ kont => XS.iinc X12.here hx rfl (hb hby d5_32) rfl (l' := #[.val (.ref ca), .val (.int (6 : Int32)), .val (.ref da), .val (.int (5 : Int32)), .val (.int (8 : Int32)), .val (.int (5 : Int32)), .val (.int (116 : Int32))]) rfl kont) ?_
  show own_Ends _ _ _ _ (T12.setTop (mkF m 35 #[.val (.ref ca), .val (.int 6), .val (.ref da), .val (.int 5), .val (.int 8), .val (.int 5), .val (.int 116)] []))
  refine own_to (fun _ kont => XS.iinc X12.here hx rfl (hb hby d5_35) rfl (l' := #[.val (.ref ca), .val (.int (6 : Int32)), .val (.ref da), .val (.int (6 : Int32)), .val (.int (8 : Int32)), .val (.int (5 : Int32)), .val (.int (116 : Int32))]) rfl kont) ?_
  show own_Ends _ _ _ _ (T12.setTop (mkF m 38 #[.val (.ref ca), .val (.int 6), .val (.ref da), .val (.int 6), .val (.int 8), .val (.int 5), .val (.int 116)] []))
  refine own_to (fun _ kont => XS.iinc X12.here hx rfl (hb hby d5_38) rfl (l' := #[.val (.ref ca), .val (.int (6 : Int32)), .val (.ref da), .val (.int (6 : Int32)), .val (.int (8 : Int32)), .val (.int (6 : Int32)), .val (.int (116 : Int32))]) rfl kont) ?_
  show own_Ends _ _ _ _ (T12.setTop (mkF m 41 #[.val (.ref ca), .val (.int 6), .val (.ref da), .val (.int 6), .val (.int 8), .val (.int 6), .val (.int 116)] []))
  refine own_to (fun _ kont => XS.goto X12.here hx rfl (pc0 := 41) (pc' := 3) rfl (hb hby d5_41) (by decide) (by decide) kont) ?_
  show own_Ends _ _ _ _ (T12.setTop (mkF m 3 #[.val (.ref ca), .val (.int 6), .val (.ref da), .val (.int 6), .val (.int 8), .val (.int 6), .val (.int 116)] []))
  refine own_to (fun _ kont => XS.iload X12.here hx rfl (hb hby d5_3) rfl kont) ?_
  show own_Ends _ _ _ _ (T12.setTop (mkF m 5 #[.val (.ref ca), .val (.int 6), .val (.ref da), .val (.int 6), .val (.int 8), .val (.int 6), .val (.int 116)] [(.int 6)]))
  refine own_to (fun _ kont => XS.iload X12.here hx rfl (hb hby d5_5) rfl kont) ?_
  show own_Ends _ _ _ _ (T12.setTop (mkF m 7 #[.val (.ref ca), .val (.int 6), .val (.ref da), .val (.int 6), .val (.int 8), .val (.int 6), .val (.int 116)] [(.int 8), (.int 6)]))
  refine own_to (fun _ kont => XS.icmpNo X12.here hx rfl (hb hby d5_7) rfl (tlt (by decide)).2.1 kont) ?_
  show own_Ends _ _ _ _ (T12.setTop (mkF m 10 #[.val (.ref ca), .val (.int 6), .val (.ref da), .val (.int 6), .val (.int 8), .val (.int 6), .val (.int 116)] []))
  refine own_to (fun _ kont => XS.aloadN X12.here hx rfl (hb hby d5_10) rfl rfl kont) ?_
  show own_Ends _ _ _ _ (T12.setTop (mkF m 11 #[.val (.ref ca), .val (.int 6), .val (.ref da), .val (.int 6), .val (.int 8), .val (.int 6), .val (.int 116)] [(.ref ca)]))
  refine own_to (fun _ kont => XS.iloadN X12.here hx rfl (hb hby d5_11) rfl kont) ?_
  show own_Ends _ _ _ _ (T12.setTop (mkF m 12 #[.val (.ref ca), .val (.int 6), .val (.ref da), .val (.int 6), .val (.int 8), .val (.int 6), .val (.int 116)] [(.int 6), (.ref ca)]))
  obtain ⟨cl13, Ar13, q13, S13, M13, H13, G13⟩ := id ((((((V_c.other W2 ne_ca_da).other W4 ne_ca_da).other W6 ne_ca_da).other W8 ne_ca_da).other W10 ne_ca_da).other W12 ne_ca_da)
  have hin13 : ¬ ((6 : Int32) < 0 ∨ cl13.slots.size ≤ ((6 : Int32)).toNatClampNeg) := inb_of S13 ⟨by decide, by decide⟩
  have hat13 : cl13.slots[((6 : Int32)).toNatClampNeg]? = some (.int (114 : Int32)) := Has.at H13 hin13 rfl
  refine own_to (fun _ kont => X12.caload hx (j := (6 : Int32)) (v := (.int (114 : Int32))) (by rw [e12]; exact Ar13.1) (State.isArrayOf_alike hZ.alike Ar13.2.1) Ar13.2.2 hin13 hat13 (g := (mkF m 12 #[.val (.ref ca), .val (.int (6 : Int32)), .val (.ref da), .val (.int (6 : Int32)), .val (.int (8 : Int32)), .val (.int (6 : Int32)), .val (.int (116 : Int32))] [(.int (6 : Int32)), (.ref ca)])) rfl rfl (hb hby d5_12) _ kont) ?_
  show own_Ends _ _ _ _ (T12.setTop (mkF m 13 #[.val (.ref ca), .val (.int 6), .val (.ref da), .val (.int 6), .val (.int 8), .val (.int 6), .val (.int 116)] [(.int 114)]))
  refine own_to (fun _ kont => XS.istore X12.here hx rfl (hb hby d5_13) rfl (l' := #[.val (.ref ca), .val (.int (6 : Int32)), .val (.ref da), .val (.int (6 : Int32)), .val (.int (8 : Int32)), .val (.int (6 : Int32)), .val (.int (114 : Int32))]) rfl kont) ?_
  show own_Ends _ _ _ _ (T12.setTop (mkF m 15 #[.val (.ref ca), .val (.int 6), .val (.ref da), .val (.int 6), .val (.int 8), .val (.int 6), .val (.int 114)] []))
  refine own_to (fun _ kont => XS.iload X12.here hx rfl (hb hby d5_15) rfl kont) ?_
  show own_Ends _ _ _ _ (T12.setTop (mkF m 17 #[.val (.ref ca), .val (.int 6), .val (.ref da), .val (.int 6), .val (.int 8), .val (.int 6), .val (.int 114)] [(.int 114)]))
  refine own_to (fun _ kont => XS.sipush X12.here hx rfl (hb hby d5_17) kont) ?_
  show own_Ends _ _ _ _ (T12.setTop (mkF m 20 #[.val (.ref ca), .val (.int 6), .val (.ref da), .val (.int 6), .val (.int 8), .val (.int 6), .val (.int 114)] [(.int 255), (.int 114)]))
  refine own_to (fun _ kont => XS.icmpYes X12.here hx rfl (pc0 := 20) (pc' := 26) rfl (hb hby d5_20) rfl (flt (by decide)).2.2.2 (by decide) (by decide) kont) ?_
  show own_Ends _ _ _ _ (T12.setTop (mkF m 26 #[.val (.ref ca), .val (.int 6), .val (.ref da), .val (.int 6), .val (.int 8), .val (.int 6), .val (.int 114)] []))
  refine own_to (fun _ kont => XS.aloadN X12.here hx rfl (hb hby d5_26) rfl rfl kont) ?_
  show own_Ends _ _ _ _ (T12.setTop (mkF m 27 #[.val (.ref ca), .val (.int 6), .val (.ref da), .val (.int 6), .val (.int 8), .val (.int 6), .val (.int 114)] [(.ref da)]))
  refine own_to (fun _ kont => XS.iloadN X12.here hx rfl (hb hby d5_27) rfl kont) ?_
  show own_Ends _ _ _ _ (T12.setTop (mkF m 28 #[.val (.ref ca), .val (.int 6), .val (.ref da), .val (.int 6), .val (.int 8), .val (.int 6), .val (.int 114)] [(.int 6), (.ref da)]))
  refine own_to (fun _ kont => XS.iload X12.here hx rfl (hb hby d5_28) rfl kont) ?_
  show own_Ends _ _ _ _ (T12.setTop (mkF m 30 #[.val (.ref ca), .val (.int 6), .val (.ref da), .val (.int 6), .val (.int 8), .val (.int 6), .val (.int 114)] [(.int 114), (.int 6), (.ref da)]))
  refine own_to (fun _ kont => XS.i2b X12.here hx rfl (hb hby d5_30) rfl kont) ?_
  show own_Ends _ _ _ _ (T12.setTop (mkF m 31 #[.val (.ref ca), .val (.int 6), .val (.ref da), .val (.int 6), .val (.int 8), .val (.int 6), .val (.int 114)] [(.int 114), (.int 6), (.ref da)]))
  obtain ⟨cl14, Ar14, q14, S14, M14, H14, G14⟩ := id Vs12
  have hin14 : ¬ ((6 : Int32) < 0 ∨ cl14.slots.size ≤ ((6 : Int32)).toNatClampNeg) := inb_of S14 ⟨by decide, by decide⟩
  obtain ⟨T14, h14, X14, e14, W14, st14⟩ := stB X12 hx hZ e12 Ar14 (j := (6 : Int32)) hin14 (g := (mkF m 31 #[.val (.ref ca), .val (.int (6 : Int32)), .val (.ref da), .val (.int (6 : Int32)), .val (.int (8 : Int32)), .val (.int (6 : Int32)), .val (.int (114 : Int32))] [(.int (114 : Int32)), (.int (6 : Int32)), (.ref da)])) rfl rfl (hb hby d5_31)
  have Vs14 : Arv Z h14 da kd .byte (8 : Int32) [(.int (114 : Int32)), (.int (101 : Int32)), (.int (103 : Int32)), (.int (105 : Int32)), (.int (115 : Int32)), (.int (116 : Int32)), (.int (114 : Int32)), (.int (0 : Int32))] (.int (0 : Int32)) := Arv.set Ar14 q14 S14 M14 H14 G14 (fits_nar_byte _) W14 6 rfl (own_lt rfl)
  refine own_to st14 ?_
  have O14 := O12.wr W14 g_da
  have N14 := Fr.snoc X14 N12 g_da
  have K14 := K12.wr W14 (Or.inl (List.mem_of_getElem? (i := 0) rfl))
  show own_Ends _ _ _ _ (T14.setTop (mkF m 32 #[.val (.ref ca), .val (.int 6), .val (.ref da), .val (.int 6), .val (.int 8), .val (.int 6), .val (.int 114)] []))
  refine own_to (fun _ kont => XS.iinc X14.here hx rfl (hb hby d5_32) rfl (l' := #[.val (.ref ca), .val (.int (7 : Int32)), .val (.ref da), .val (.int (6 : Int32)), .val (.int (8 : Int32)), .val (.int (6 : Int32)), .val (.int (114 : Int32))]) rfl kont) ?_
  show own_Ends _ _ _ _ (T14.setTop (mkF m 35 #[.val (.ref ca), .val (.int 7), .val (.ref da), .val (.int 6), .val (.int 8), .val (.int 6), .val (.int 114)] []))
  refine own_to (fun _ kont => XS.iinc X14.here hx rfl (hb hby d5_35) rfl (l' := #[.val (.ref ca), .val (.int (7 : Int32)), .val (.ref da), .val (.int (7 : Int32)), .val (.int (8 : Int32)), .val (.int (6 : Int32)), .val (.int (114 : Int32))]) rfl kont) ?_
  show own_Ends _ _ _ _ (T14.setTop (mkF m 38 #[.val (.ref ca), .val (.int 7), .val (.ref da), .val (.int 7), .val (.int 8), .val (.int 6), .val (.int 114)] []))
  refine own_to (fun _ kont => XS.iinc X14.here hx rfl (hb hby d5_38) rfl (l' := #[.val (.ref ca), .val (.int (7 : Int32)), .val (.ref da), .val (.int (7 : Int32)), .val (.int (8 : Int32)), .val (.int (7 : Int32)), .val (.int (114 : Int32))]) rfl kont) ?_
  show own_Ends _ _ _ _ (T14.setTop (mkF m 41 #[.val (.ref ca), .val (.int 7), .val (.ref da), .val (.int 7), .val (.int 8), .val (.int 7), .val (.int 114)] []))
  refine own_to (fun _ kont => XS.goto X14.here hx rfl (pc0 := 41) (pc' := 3) rfl (hb hby d5_41) (by decide) (by decide) kont) ?_
  show own_Ends _ _ _ _ (T14.setTop (mkF m 3 #[.val (.ref ca), .val (.int 7), .val (.ref da), .val (.int 7), .val (.int 8), .val (.int 7), .val (.int 114)] []))
  refine own_to (fun _ kont => XS.iload X14.here hx rfl (hb hby d5_3) rfl kont) ?_
  show own_Ends _ _ _ _ (T14.setTop (mkF m 5 #[.val (.ref ca), .val (.int 7), .val (.ref da), .val (.int 7), .val (.int 8), .val (.int 7), .val (.int 114)] [(.int 7)]))
  refine own_to (fun _ kont => XS.iload X14.here hx rfl (hb hby d5_5) rfl kont) ?_
  show own_Ends _ _ _ _ (T14.setTop (mkF m 7 #[.val (.ref ca), .val (.int 7), .val (.ref da), .val (.int 7), .val (.int 8), .val (.int 7), .val (.int 114)] [(.int 8), (.int 7)]))
  refine own_to (fun _ kont => XS.icmpNo X14.here hx rfl (hb hby d5_7) rfl (tlt (by decide)).2.1 kont) ?_
  show own_Ends _ _ _ _ (T14.setTop (mkF m 10 #[.val (.ref ca), .val (.int 7), .val (.ref da), .val (.int 7), .val (.int 8), .val (.int 7), .val (.int 114)] []))
  refine own_to (fun _ kont => XS.aloadN X14.here hx rfl (hb hby d5_10) rfl rfl kont) ?_
  show own_Ends _ _ _ _ (T14.setTop (mkF m 11 #[.val (.ref ca), .val (.int 7), .val (.ref da), .val (.int 7), .val (.int 8), .val (.int 7), .val (.int 114)] [(.ref ca)]))
  refine own_to (fun _ kont => XS.iloadN X14.here hx rfl (hb hby d5_11) rfl kont) ?_
  show own_Ends _ _ _ _ (T14.setTop (mkF m 12 #[.val (.ref ca), .val (.int 7), .val (.ref da), .val (.int 7), .val (.int 8), .val (.int 7), .val (.int 114)] [(.int 7), (.ref ca)]))
  obtain ⟨cl15, Ar15, q15, S15, M15, H15, G15⟩ := id (((((((V_c.other W2 ne_ca_da).other W4 ne_ca_da).other W6 ne_ca_da).other W8 ne_ca_da).other W10 ne_ca_da).other W12 ne_ca_da).other W14 ne_ca_da)
  have hin15 : ¬ ((7 : Int32) < 0 ∨ cl15.slots.size ≤ ((7 : Int32)).toNatClampNeg) := inb_of S15 ⟨by decide, by decide⟩
  have hat15 : cl15.slots[((7 : Int32)).toNatClampNeg]? = some (.int (121 : Int32)) := Has.at H15 hin15 rfl
  refine own_to (fun _ kont => X14.caload hx (j := (7 : Int32)) (v := (.int (121 : Int32))) (by rw [e14]; exact Ar15.1) (State.isArrayOf_alike hZ.alike Ar15.2.1) Ar15.2.2 hin15 hat15 (g := (mkF m 12 #[.val (.ref ca), .val (.int (7 : Int32)), .val (.ref da), .val (.int (7 : Int32)), .val (.int (8 : Int32)), .val (.int (7 : Int32)), .val (.int (114 : Int32))] [(.int (7 : Int32)), (.ref ca)])) rfl rfl (hb hby d5_12) _ kont) ?_
  show own_Ends _ _ _ _ (T14.setTop (mkF m 13 #[.val (.ref ca), .val (.int 7), .val (.ref da), .val (.int 7), .val (.int 8), .val (.int 7), .val (.int 114)] [(.int 121)]))
  refine own_to (fun _ kont => XS.istore X14.here hx rfl (hb hby d5_13) rfl (l' := #[.val (.ref ca), .val (.int (7 : Int32)), .val (.ref da), .val (.int (7 : Int32)), .val (.int (8 : Int32)), .val (.int (7 : Int32)), .val (.int (121 : Int32))]) rfl kont) ?_
  show own_Ends _ _ _ _ (T14.setTop (mkF m 15 #[.val (.ref ca), .val (.int 7), .val (.ref da), .val (.int 7), .val (.int 8), .val (.int 7), .val (.int 121)] []))
  refine own_to (fun _ kont => XS.iload X14.here hx rfl (hb hby d5_15) rfl kont) ?_
  show own_Ends _ _ _ _ (T14.setTop (mkF m 17 #[.val (.ref ca), .val (.int 7), .val (.ref da), .val (.int 7), .val (.int 8), .val (.int 7), .val (.int 121)] [(.int 121)]))
  refine own_to (fun _ kont => XS.sipush X14.here hx rfl (hb hby d5_17) kont) ?_
  show own_Ends _ _ _ _ (T14.setTop (mkF m 20 #[.val (.ref ca), .val (.int 7), .val (.ref da), .val (.int 7), .val (.int 8), .val (.int 7), .val (.int 121)] [(.int 255), (.int 121)]))
  refine own_to (fun _ kont => XS.icmpYes X14.here hx rfl (pc0 := 20) (pc' := 26) rfl (hb hby d5_20) rfl (flt (by decide)).2.2.2 (by decide) (by decide) kont) ?_
  show own_Ends _ _ _ _ (T14.setTop (mkF m 26 #[.val (.ref ca), .val (.int 7), .val (.ref da), .val (.int 7), .val (.int 8), .val (.int 7), .val (.int 121)] []))
  refine own_to (fun _ kont => XS.aloadN X14.here hx rfl (hb hby d5_26) rfl rfl kont) ?_
  show own_Ends _ _ _ _ (T14.setTop (mkF m 27 #[.val (.ref ca), .val (.int 7), .val (.ref da), .val (.int 7), .val (.int 8), .val (.int 7), .val (.int 121)] [(.ref da)]))
  refine own_to (fun _ kont => XS.iloadN X14.here hx rfl (hb hby d5_27) rfl kont) ?_
  show own_Ends _ _ _ _ (T14.setTop (mkF m 28 #[.val (.ref ca), .val (.int 7), .val (.ref da), .val (.int 7), .val (.int 8), .val (.int 7), .val (.int 121)] [(.int 7), (.ref da)]))
  refine own_to (fun _ kont => XS.iload X14.here hx rfl (hb hby d5_28) rfl kont) ?_
  show own_Ends _ _ _ _ (T14.setTop (mkF m 30 #[.val (.ref ca), .val (.int 7), .val (.ref da), .val (.int 7), .val (.int 8), .val (.int 7), .val (.int 121)] [(.int 121), (.int 7), (.ref da)]))
  refine own_to (fun _ kont => XS.i2b X14.here hx rfl (hb hby d5_30) rfl kont) ?_
  show own_Ends _ _ _ _ (T14.setTop (mkF m 31 #[.val (.ref ca), .val (.int 7), .val (.ref da), .val (.int 7), .val (.int 8), .val (.int 7), .val (.int 121)] [(.int 121), (.int 7), (.ref da)]))
  obtain ⟨cl16, Ar16, q16, S16, M16, H16, G16⟩ := id Vs14
  have hin16 : ¬ ((7 : Int32) < 0 ∨ cl16.slots.size ≤ ((7 : Int32)).toNatClampNeg) := inb_of S16 ⟨by decide, by decide⟩
  obtain ⟨T16, h16, X16, e16, W16, st16⟩ := stB X14 hx hZ e14 Ar16 (j := (7 : Int32)) hin16 (g := (mkF m 31 #[.val (.ref ca), .val (.int (7 : Int32)), .val (.ref da), .val (.int (7 : Int32)), .val (.int (8 : Int32)), .val (.int (7 : Int32)), .val (.int (121 : Int32))] [(.int (121 : Int32)), (.int (7 : Int32)), (.ref da)])) rfl rfl (hb hby d5_31)
  have Vs16 : Arv Z h16 da kd .byte (8 : Int32) [(.int (114 : Int32)), (.int (101 : Int32)), (.int (103 : Int32)), (.int (105 : Int32)), (.int (115 : Int32)), (.int (116 : Int32)), (.int (114 : Int32)), (.int (121 : Int32))] (.int (0 : Int32)) := Arv.set Ar16 q16 S16 M16 H16 G16 (fits_nar_byte _) W16 7 rfl (own_lt rfl)
  refine own_to st16 ?_
  have O16 := O14.wr W16 g_da
  have N16 := Fr.snoc X16 N14 g_da
  have K16 := K14.wr W16 (Or.inl (List.mem_of_getElem? (i := 0) rfl))
  show own_Ends _ _ _ _ (T16.setTop (mkF m 32 #[.val (.ref ca), .val (.int 7), .val (.ref da), .val (.int 7), .val (.int 8), .val (.int 7), .val (.int 121)] []))
  refine own_to (fun _ kont => XS.iinc X16.here hx rfl (hb hby d5_32) rfl (l' := #[.val (.ref ca), .val (.int (8 : Int32)), .val (.ref da), .val (.int (7 : Int32)), .val (.int (8 : Int32)), .val (.int (7 : Int32)), .val (.int (121 : Int32))]) rfl kont) ?_
  show own_Ends _ _ _ _ (T16.setTop (mkF m 35 #[.val (.ref ca), .val (.int 8), .val (.ref da), .val (.int 7), .val (.int 8), .val (.int 7), .val (.int 121)] []))
  refine own_to (fun _ kont => XS.iinc X16.here hx rfl (hb hby d5_35) rfl (l' := #[.val (.ref ca), .val (.int (8 : Int32)), .val (.ref da), .val (.int (8 : Int32)), .val (.int (8 : Int32)), .val (.int (7 : Int32)), .val (.int (121 : Int32))]) rfl kont) ?_
  show own_Ends _ _ _ _ (T16.setTop (mkF m 38 #[.val (.ref ca), .val (.int 8), .val (.ref da), .val (.int 8), .val (.int 8), .val (.int 7), .val (.int 121)] []))
  refine own_to (fun _ kont => XS.iinc X16.here hx rfl (hb hby d5_38) rfl (l' := #[.val (.ref ca), .val (.int (8 : Int32)), .val (.ref da), .val (.int (8 : Int32)), .val (.int (8 : Int32)), .val (.int (8 : Int32)), .val (.int (121 : Int32))]) rfl kont) ?_
  show own_Ends _ _ _ _ (T16.setTop (mkF m 41 #[.val (.ref ca), .val (.int 8), .val (.ref da), .val (.int 8), .val (.int 8), .val (.int 8), .val (.int 121)] []))
  refine own_to (fun _ kont => XS.goto X16.here hx rfl (pc0 := 41) (pc' := 3) rfl (hb hby d5_41) (by decide) (by decide) kont) ?_
  show own_Ends _ _ _ _ (T16.setTop (mkF m 3 #[.val (.ref ca), .val (.int 8), .val (.ref da), .val (.int 8), .val (.int 8), .val (.int 8), .val (.int 121)] []))
  refine own_to (fun _ kont => XS.iload X16.here hx rfl (hb hby d5_3) rfl kont) ?_
  show own_Ends _ _ _ _ (T16.setTop (mkF m 5 #[.val (.ref ca), .val (.int 8), .val (.ref da), .val (.int 8), .val (.int 8), .val (.int 8), .val (.int 121)] [(.int 8)]))
  refine own_to (fun _ kont => XS.iload X16.here hx rfl (hb hby d5_5) rfl kont) ?_
  show own_Ends _ _ _ _ (T16.setTop (mkF m 7 #[.val (.ref ca), .val (.int 8), .val (.ref da), .val (.int 8), .val (.int 8), .val (.int 8), .val (.int 121)] [(.int 8), (.int 8)]))
  refine own_to (fun _ kont => XS.icmpYes X16.here hx rfl (pc0 := 7) (pc' := 44) rfl (hb hby d5_7) rfl (flt (by decide)).2.1 (by decide) (by decide) kont) ?_
  show own_Ends _ _ _ _ (T16.setTop (mkF m 44 #[.val (.ref ca), .val (.int 8), .val (.ref da), .val (.int 8), .val (.int 8), .val (.int 8), .val (.int 121)] []))
  refine own_to (fun _ kont => XS.iload X16.here hx rfl (hb hby d5_44) rfl kont) ?_
  show own_Ends _ _ _ _ (T16.setTop (mkF m 46 #[.val (.ref ca), .val (.int 8), .val (.ref da), .val (.int 8), .val (.int 8), .val (.int 8), .val (.int 121)] [(.int 8)]))
  refine own_leave X16 (v := some (.int (8 : Int32))) (fun h => by rw [Bd.returns] at h; cases h) ?_ (by decide) (by decide) (fun fs hr => retOut X16 hx Bd.returns rfl (Or.inl ⟨rfl, Or.inl rfl, _, rfl⟩) (hb hby d5_46) hr)
  show Q_cp2B Z ca da kc kd h0 n0 _ T16.heap _
  rw [e16]
  exact ⟨rfl, N16, O16, K16, Vs16⟩
theorem ef_cp1B (m : MethodId) (ca : Addr) (kc : ClassId) : entryFrame m #[(.ref ca), (.int (0 : Int32)), (.int (8 : Int32))] 6 = mkF m 0 #[.val (.ref ca), .val (.int (0 : Int32)), .val (.int (8 : Int32)), .unset, .unset, .unset] [] := by first | (simp [entryFrame, mkF, argsToLocals, Value.category]; done) | rfl | (rcases ref_cases hrf with rfl | ⟨q, rfl⟩ <;> rfl)
def Q_cp1B (Z : State) (ca : Addr) (kc : ClassId) (h0 : Heap) (n0 : Nat) (v : Option Value) (h : Heap) (L : List Loc) : Prop := ∃ (b : Addr) (kb : ClassId), v = some (.ref b) ∧ n0 ≤ b ∧ h0.size ≤ b ∧ Fr n0 L ∧ Old Z n0 h ∧ Keep h0 h [] ∧ Arv Z h b kb .byte (8 : Int32) [(.int (114 : Int32)), (.int (101 : Int32)), (.int (103 : Int32)), (.int (105 : Int32)), (.int (115 : Int32)), (.int (116 : Int32)), (.int (114 : Int32)), (.int (121 : Int32))] (.int (0 : Int32))
set_option maxRecDepth 65536 in
set_option maxHeartbeats 40000000 in
theorem cp1B (l : Launch) (Z : State) (a0 : Array Value) (hw : ∀ d ∈ tables_1, d.before a0 Z = true) (ws : List Jvm.Cond) (ca : Addr) (kc : ClassId) (h0 : Heap) (n0 : Nat) (O0 : Old Z n0 h0) (V_c : Arv Z h0 ca kc .char (8 : Int32) [(.int (114 : Int32)), (.int (101 : Int32)), (.int (103 : Int32)), (.int (105 : Int32)), (.int (115 : Int32)), (.int (116 : Int32)), (.int (114 : Int32)), (.int (121 : Int32))] (.int (0 : Int32))) :
    MetFree l oM1 (head1 (Jvm.Cond.code oM1 jdk_52_method_16_code 6 (some (.array .byte)) :: ws) ({ frames := 1, cells := 1, slots := 8, locals := 18 } : Room)) (fun aq_ U => aq_ = #[(.ref ca), (.int (0 : Int32)), (.int (8 : Int32))] ∧ Z.Warmed39 U.vm ∧ U.heap = h0) (fun _ _ _ _ _ => True) (fun _ U o U' => ∃ v L, o = .returned v ∧ Q_cp1B Z ca kc h0 n0 v U'.heap L ∧ FrameEnd U o U' L ({ frames := 1, cells := 1, slots := 8, locals := 18 } : Room).cells ({ frames := 1, cells := 1, slots := 8, locals := 18 } : Room).slots) := by
  refine MetFree.of_bodySF (plainFor_of_name pn_4) hisR ?_
  intro p e s m args below meth c s₁ Bd hml0 hP hK
  obtain ⟨rfl, hZ, hh⟩ := hP
  have hx := Bd.exec
  have hby := Bd.bytes
  have hml : c.maxLocals = 6 := hml0
  have hown : s.vm.findClass "java/lang/StringUTF16" = some m.cls := findClass_of_methodNamed Bd.named
  have hnm := (name_of_methodNamed Bd.named Bd.method).1
  have X0 : Stand p l e ({ frames := 1, cells := 1, slots := 8, locals := 18 } : Room) s m #[(.ref ca), (.int (0 : Int32)), (.int (8 : Int32))] below meth c s₁ [] 0 0 := Stand.of_body Bd
  have e0 : s₁.heap = h0 := by rw [← hh, Bd.state]; rfl
  have N0 := Fr.nil n0
  show own_Ends p.tables e below (own_P s (Q_cp1B Z ca kc h0 n0) ({ frames := 1, cells := 1, slots := 8, locals := 18 } : Room).cells ({ frames := 1, cells := 1, slots := 8, locals := 18 } : Room).slots) _
  refine own_cast (ef_cp1B m ca kc) ?_
  have K0 := Keep.refl h0 []
  show own_Ends _ _ _ _ (s₁.setTop (mkF m 0 #[.val (.ref ca), .val (.int 0), .val (.int 8), .unset, .unset, .unset] []))
  refine own_to (fun _ kont => XS.iloadN X0.here hx rfl (hb hby d4_0) rfl kont) ?_
  show own_Ends _ _ _ _ (s₁.setTop (mkF m 1 #[.val (.ref ca), .val (.int 0), .val (.int 8), .unset, .unset, .unset] [(.int 8)]))
  obtain ⟨T1, h1, k1, X1, e1, E1, A1, st1⟩ := newP X0 hx hZ (aty := .byte) (ow19 hw) e0 (g := (mkF m 1 #[.val (.ref ca), .val (.int (0 : Int32)), .val (.int (8 : Int32)), .unset, .unset, .unset] [(.int (8 : Int32))])) rfl (hb hby d4_1) rfl (by decide) (cap := 8) (by decide) (by decide) (by decide) (by decide)
  obtain ⟨b1, g1⟩ : ∃ z, z = h0.size := ⟨_, rfl⟩
  rw [← g1] at A1 st1
  have ne_ca_b1 : ca ≠ b1 := Nat.ne_of_lt (Nat.lt_of_lt_of_le V_c.lt (Nat.le_of_eq g1.symm))
  have g_b1 : n0 ≤ b1 := Nat.le_trans (own_old_le O0) (Nat.le_of_eq g1.symm)
  have sz_b1 : h0.size ≤ b1 := Nat.le_trans K0.1 (Nat.le_of_eq g1.symm)
  refine own_to st1 ?_
  have O1 := O0.ext E1
  have K1 := K0.ext E1
  have Vn1 : Arv Z h1 b1 k1 .byte (8 : Int32) [(.int (0 : Int32)), (.int (0 : Int32)), (.int (0 : Int32)), (.int (0 : Int32)), (.int (0 : Int32)), (.int (0 : Int32)), (.int (0 : Int32)), (.int (0 : Int32))] (.int (0 : Int32)) := (Arv.new A1 (by decide)).pad (pad_rep [] (.int (0 : Int32)) 8)
  show own_Ends _ _ _ _ (T1.setTop (mkF m 3 #[.val (.ref ca), .val (.int 0), .val (.int 8), .unset, .unset, .unset] [(.ref b1)]))
  refine own_to (fun _ kont => XS.astoreN X1.here hx rfl (hb hby d4_3) rfl rfl (l' := #[.val (.ref ca), .val (.int (0 : Int32)), .val (.int (8 : Int32)), .val (.ref b1), .unset, .unset]) rfl kont) ?_
  show own_Ends _ _ _ _ (T1.setTop (mkF m 4 #[.val (.ref ca), .val (.int 0), .val (.int 8), .val (.ref b1), .unset, .unset] []))
  refine own_to (fun _ kont => XS.aloadN X1.here hx rfl (hb hby d4_4) rfl rfl kont) ?_
  show own_Ends _ _ _ _ (T1.setTop (mkF m 5 #[.val (.ref ca), .val (.int 0), .val (.int 8), .val (.ref b1), .unset, .unset] [(.ref ca)]))
  refine own_to (fun _ kont => XS.iloadN X1.here hx rfl (hb hby d4_5) rfl kont) ?_
  show own_Ends _ _ _ _ (T1.setTop (mkF m 6 #[.val (.ref ca), .val (.int 0), .val (.int 8), .val (.ref b1), .unset, .unset] [(.int 0), (.ref ca)]))
  refine own_to (fun _ kont => XS.aloadN X1.here hx rfl (hb hby d4_6) rfl rfl kont) ?_
  show own_Ends _ _ _ _ (T1.setTop (mkF m 7 #[.val (.ref ca), .val (.int 0), .val (.int 8), .val (.ref b1), .unset, .unset] [(.ref b1), (.int 0), (.ref ca)]))
  refine own_to (fun _ kont => XS.iconst X1.here hx rfl (hb hby d4_7) kont) ?_
  show own_Ends _ _ _ _ (T1.setTop (mkF m 8 #[.val (.ref ca), .val (.int 0), .val (.int 8), .val (.ref b1), .unset, .unset] [(.int 0), (.ref b1), (.int 0), (.ref ca)]))
  refine own_to (fun _ kont => XS.iloadN X1.here hx rfl (hb hby d4_8) rfl kont) ?_
  show own_Ends _ _ _ _ (T1.setTop (mkF m 9 #[.val (.ref ca), .val (.int 0), .val (.int 8), .val (.ref b1), .unset, .unset] [(.int 8), (.int 0), (.ref b1), (.int 0), (.ref ca)]))
  obtain ⟨_, _, ⟨T2, L2, k2, n2⟩, -, X2, ⟨Lc2, hQ2, l2, y2, z2⟩, st2⟩ := Jvm.LawKit.callS X1 hx (y := oM0) hown (mvT hZ (ow20 hw)) (mvT hZ (ow21 hw)) (mvT hZ (ow17 hw)) (mvT hZ (ow22 hw)) (by decide) (backOf (W := 0) (cp2B l Z a0 hw [] ca b1 kc k1 h1 n0 O1 (V_c.ext E1) Vn1 g_b1 ne_ca_b1) hZ (ow22 hw) (ow17 hw) (by decide) (by decide)) (g := (mkF m 9 #[.val (.ref ca), .val (.int (0 : Int32)), .val (.int (8 : Int32)), .val (.ref b1), .unset, .unset] [(.int (8 : Int32)), (.int (0 : Int32)), (.ref b1), (.int (0 : Int32)), (.ref ca)])) rfl (by rw [hml]; rfl) (argsL := [(.ref ca), (.int (0 : Int32)), (.ref b1), (.int (0 : Int32)), (.int (8 : Int32))]) (rest := []) (lenOf pd_0 rfl) rfl (by show 2 * 0 + _ ≤ _; exact Nat.le_of_eq rfl) (hb hby d4_9) (fun _ _ => ⟨rfl, e1, (own_le rfl), (own_le rfl)⟩)
  dsimp only [Pt.U, Pt.locs, Pt.cells, Pt.slots] at X2 l2 y2 z2 st2 hQ2
  subst l2 y2 z2
  obtain ⟨rfl, N2q, Oq2, Kq2, Vx2⟩ := hQ2
  have N2 := Fr.app N0 N2q
  have KK2 := K1.trans Kq2 (allS (Or.inr sz_b1) all0)
  refine own_to st2 ?_
  show own_Ends _ _ _ _ (T2.setTop (mkF m 12 #[.val (.ref ca), .val (.int 0), .val (.int 8), .val (.ref b1), .unset, .unset] [(.int 8)]))
  refine own_to (fun _ kont => XS.istore X2.here hx rfl (hb hby d4_12) rfl (l' := #[.val (.ref ca), .val (.int (0 : Int32)), .val (.int (8 : Int32)), .val (.ref b1), .val (.int (8 : Int32)), .unset]) rfl kont) ?_
  show own_Ends _ _ _ _ (T2.setTop (mkF m 14 #[.val (.ref ca), .val (.int 0), .val (.int 8), .val (.ref b1), .val (.int 8), .unset] []))
  refine own_to (fun _ kont => XS.iload X2.here hx rfl (hb hby d4_14) rfl kont) ?_
  show own_Ends _ _ _ _ (T2.setTop (mkF m 16 #[.val (.ref ca), .val (.int 0), .val (.int 8), .val (.ref b1), .val (.int 8), .unset] [(.int 8)]))
  refine own_to (fun _ kont => XS.iloadN X2.here hx rfl (hb hby d4_16) rfl kont) ?_
  show own_Ends _ _ _ _ (T2.setTop (mkF m 17 #[.val (.ref ca), .val (.int 0), .val (.int 8), .val (.ref b1), .val (.int 8), .unset] [(.int 8), (.int 8)]))
  refine own_to (fun _ kont => XS.icmpYes X2.here hx rfl (pc0 := 17) (pc' := 57) rfl (hb hby d4_17) rfl (teq (by decide)).1 (by decide) (by decide) kont) ?_
  show own_Ends _ _ _ _ (T2.setTop (mkF m 57 #[.val (.ref ca), .val (.int 0), .val (.int 8), .val (.ref b1), .val (.int 8), .unset] []))
  refine own_to (fun _ kont => XS.aloadN X2.here hx rfl (hb hby d4_57) rfl rfl kont) ?_
  show own_Ends _ _ _ _ (T2.setTop (mkF m 58 #[.val (.ref ca), .val (.int 0), .val (.int 8), .val (.ref b1), .val (.int 8), .unset] [(.ref b1)]))
  refine own_leave X2 (v := some (.ref b1)) (fun h => by rw [Bd.returns] at h; cases h) ?_ (by decide) (by decide) (fun fs hr => retOut X2 hx Bd.returns rfl (Or.inr (Or.inr (Or.inr (Or.inr ⟨rfl, rfl, rfl⟩)))) (hb hby d4_58) hr)
  show Q_cp1B Z ca kc h0 n0 _ T2.heap _
  exact ⟨b1, k1, rfl, g_b1, sz_b1, N2, Oq2, KK2, Vx2⟩
theorem ef_cflB (m : MethodId) (ba : Addr) (kb : ClassId) : entryFrame m #[(.ref ba), (.int (8 : Int32))] 2 = mkF m 0 #[.val (.ref ba), .val (.int (8 : Int32))] [] := by first | (simp [entryFrame, mkF, argsToLocals, Value.category]; done) | rfl | (rcases ref_cases hrf with rfl | ⟨q, rfl⟩ <;> rfl)
def Q_cflB (Z : State) (ba : Addr) (kb : ClassId) (h0 : Heap) (n0 : Nat) (v : Option Value) (h : Heap) (L : List Loc) : Prop := v = some (.int (0 : Int32)) ∧ Fr n0 L ∧ h = h0
set_option maxRecDepth 65536 in
set_option maxHeartbeats 40000000 in
theorem cflB (l : Launch) (Z : State) (a0 : Array Value) (hw : ∀ d ∈ tables_1, d.before a0 Z = true) (ws : List Jvm.Cond) (ba : Addr) (kb : ClassId) (h0 : Heap) (n0 : Nat) (O0 : Old Z n0 h0) (V_b : Arv Z h0 ba kb .byte (8 : Int32) [(.int (114 : Int32)), (.int (101 : Int32)), (.int (103 : Int32)), (.int (105 : Int32)), (.int (115 : Int32)), (.int (116 : Int32)), (.int (114 : Int32)), (.int (121 : Int32))] (.int (0 : Int32))) :
    MetFree l oM2 (head1 (Jvm.Cond.code oM2 jdk_52_method_15_code 2 (some .byte) :: ws) ({ frames := 0, cells := 0, slots := 0, locals := 0 } : Room)) (fun aq_ U => aq_ = #[(.ref ba), (.int (8 : Int32))] ∧ Z.Warmed39 U.vm ∧ U.heap = h0) (fun _ _ _ _ _ => True) (fun _ U o U' => ∃ v L, o = .returned v ∧ Q_cflB Z ba kb h0 n0 v U'.heap L ∧ FrameEnd U o U' L ({ frames := 0, cells := 0, slots := 0, locals := 0 } : Room).cells ({ frames := 0, cells := 0, slots := 0, locals := 0 } : Room).slots) := by
  refine MetFree.of_bodySF (plainFor_of_name pn_6) hisR ?_
  intro p e s m args below meth c s₁ Bd hml0 hP hK
  obtain ⟨rfl, hZ, hh⟩ := hP
  have hx := Bd.exec
  have hby := Bd.bytes
  have hml : c.maxLocals = 2 := hml0
  have hown : s.vm.findClass "java/lang/StringUTF16" = some m.cls := findClass_of_methodNamed Bd.named
  have hnm := (name_of_methodNamed Bd.named Bd.method).1
  have X0 : Stand p l e ({ frames := 0, cells := 0, slots := 0, locals := 0 } : Room) s m #[(.ref ba), (.int (8 : Int32))] below meth c s₁ [] 0 0 := Stand.of_body Bd
  have e0 : s₁.heap = h0 := by rw [← hh, Bd.state]; rfl
  have N0 := Fr.nil n0
  show own_Ends p.tables e below (own_P s (Q_cflB Z ba kb h0 n0) ({ frames := 0, cells := 0, slots := 0, locals := 0 } : Room).cells ({ frames := 0, cells := 0, slots := 0, locals := 0 } : Room).slots) _
  refine own_cast (ef_cflB m ba kb) ?_
  show own_Ends _ _ _ _ (s₁.setTop (mkF m 0 #[.val (.ref ba), .val (.int 8)] []))
  refine own_to (fun _ kont => XS.iloadN X0.here hx rfl (hb hby d6_0) rfl kont) ?_
  show own_Ends _ _ _ _ (s₁.setTop (mkF m 1 #[.val (.ref ba), .val (.int 8)] [(.int 8)]))
  refine own_to (fun _ kont => XS.aloadN X0.here hx rfl (hb hby d6_1) rfl rfl kont) ?_
  show own_Ends _ _ _ _ (s₁.setTop (mkF m 2 #[.val (.ref ba), .val (.int 8)] [(.ref ba), (.int 8)]))
  obtain ⟨cl1, Ar1, q1, S1, M1, -, -⟩ := id V_b
  refine own_to (fun _ kont => X0.arraylength hx (by rw [e0]; exact Ar1.1) (State.isArrayOf_alike hZ.alike Ar1.2.1) (g := (mkF m 2 #[.val (.ref ba), .val (.int (8 : Int32))] [(.ref ba), (.int (8 : Int32))])) rfl rfl (hb hby d6_2) _ kont) ?_
  rw [len_of S1 M1]
  show own_Ends _ _ _ _ (s₁.setTop (mkF m 3 #[.val (.ref ba), .val (.int 8)] [(.int 8), (.int 8)]))
  refine own_to (fun _ kont => XS.isub X0.here hx rfl (hb hby d6_3) rfl kont) ?_
  show own_Ends _ _ _ _ (s₁.setTop (mkF m 4 #[.val (.ref ba), .val (.int 8)] [(.int 0)]))
  refine own_to (fun _ kont => XS.bipush X0.here hx rfl (hb hby d6_4) kont) ?_
  show own_Ends _ _ _ _ (s₁.setTop (mkF m 6 #[.val (.ref ba), .val (.int 8)] [(.int 31), (.int 0)]))
  refine own_to (fun _ kont => XS.iushr X0.here hx rfl (hb hby d6_6) rfl kont) ?_
  show own_Ends _ _ _ _ (s₁.setTop (mkF m 7 #[.val (.ref ba), .val (.int 8)] [(.int 0)]))
  refine own_to (fun _ kont => XS.i2b X0.here hx rfl (hb hby d6_7) rfl kont) ?_
  show own_Ends _ _ _ _ (s₁.setTop (mkF m 8 #[.val (.ref ba), .val (.int 8)] [(.int 0)]))
  refine own_leave X0 (v := some (.int (0 : Int32))) (fun h => by rw [Bd.returns] at h; cases h) ?_ (by decide) (by decide) (fun fs hr => retN X0 hx (t := .byte) Bd.returns (by simp) (hb hby d6_8) hr)
  show Q_cflB Z ba kb h0 n0 _ s₁.heap _
  rw [e0]
  exact ⟨rfl, N0, rfl⟩
theorem ef_in4B (m : MethodId) (a : Addr) (ca : Addr) (kc : ClassId) (cs_ : Int32) : entryFrame m #[(.ref a), (.ref ca), (.int (0 : Int32)), (.int (8 : Int32)), .null] 6 = mkF m 0 #[.val (.ref a), .val (.ref ca), .val (.int (0 : Int32)), .val (.int (8 : Int32)), .val .null, .unset] [] := by first | (simp [entryFrame, mkF, argsToLocals, Value.category]; done) | rfl | (rcases ref_cases hrf with rfl | ⟨q, rfl⟩ <;> rfl)
def Q_in4B (Z : State) (a : Addr) (ca : Addr) (kc : ClassId) (cs_ : Int32) (h0 : Heap) (n0 : Nat) (v : Option Value) (h : Heap) (L : List Loc) : Prop := v = none ∧ Fr n0 L ∧ Old Z n0 h ∧ Keep h0 h [a] ∧ Exa Z h a "java/lang/String" ∧ Fld Z h a "java/lang/String" "coder" "B" (.int (0 : Int32)) ∧ ∃ (b : Addr) (kb : ClassId), n0 ≤ b ∧ h0.size ≤ b ∧ Fld Z h a "java/lang/String" "value" "[B" (.ref b) ∧ Arv Z h b kb .byte (8 : Int32) [(.int (114 : Int32)), (.int (101 : Int32)), (.int (103 : Int32)), (.int (105 : Int32)), (.int (115 : Int32)), (.int (116 : Int32)), (.int (114 : Int32)), (.int (121 : Int32))] (.int (0 : Int32))
set_option maxRecDepth 65536 in
set_option maxHeartbeats 40000000 in
theorem in4B (l : Launch) (Z : State) (a0 : Array Value) (hw : ∀ d ∈ tables_1, d.before a0 Z = true) (ws : List Jvm.Cond) (a : Addr) (ca : Addr) (kc : ClassId) (cs_ : Int32) (h0 : Heap) (n0 : Nat) (O0 : Old Z n0 h0) (g_a : n0 ≤ a) (E_a : Exa Z h0 a "java/lang/String") (F_v : Fld Z h0 a "java/lang/String" "value" "[B" .null) (F_c : Fld Z h0 a "java/lang/String" "coder" "B" (.int (0 : Int32))) (V_c : Arv Z h0 ca kc .char (8 : Int32) [(.int (114 : Int32)), (.int (101 : Int32)), (.int (103 : Int32)), (.int (105 : Int32)), (.int (115 : Int32)), (.int (116 : Int32)), (.int (114 : Int32)), (.int (121 : Int32))] (.int (0 : Int32))) (ne_ca_a : ca ≠ a) (S_cs : Sta Z Z.heap "java/lang/String" "COMPACT_STRINGS" "Z" (.int cs_)) (hcs : ¬ cs_ = (0 : Int32)) :
    MetFree l oM3 (head1 (Jvm.Cond.code oM3 jdk_42_method_149_code 6 none :: ws) ({ frames := 3, cells := 1, slots := 8, locals := 40 } : Room)) (fun aq_ U => aq_ = #[(.ref a), (.ref ca), (.int (0 : Int32)), (.int (8 : Int32)), .null] ∧ Z.Warmed39 U.vm ∧ U.heap = h0) (fun _ _ _ _ _ => True) (fun _ U o U' => ∃ v L, o = .returned v ∧ Q_in4B Z a ca kc cs_ h0 n0 v U'.heap L ∧ FrameEnd U o U' L ({ frames := 3, cells := 1, slots := 8, locals := 40 } : Room).cells ({ frames := 3, cells := 1, slots := 8, locals := 40 } : Room).slots) := by
  refine MetFree.of_bodySF (plainFor_of_name pn_2) hisR ?_
  intro p e s m args below meth c s₁ Bd hml0 hP hK
  obtain ⟨rfl, hZ, hh⟩ := hP
  have hx := Bd.exec
  have hby := Bd.bytes
  have hml : c.maxLocals = 6 := hml0
  have hown : s.vm.findClass "java/lang/String" = some m.cls := findClass_of_methodNamed Bd.named
  have hnm := (name_of_methodNamed Bd.named Bd.method).1
  have X0 : Stand p l e ({ frames := 3, cells := 1, slots := 8, locals := 40 } : Room) s m #[(.ref a), (.ref ca), (.int (0 : Int32)), (.int (8 : Int32)), .null] below meth c s₁ [] 0 0 := Stand.of_body Bd
  have e0 : s₁.heap = h0 := by rw [← hh, Bd.state]; rfl
  have N0 := Fr.nil n0
  show own_Ends p.tables e below (own_P s (Q_in4B Z a ca kc cs_ h0 n0) ({ frames := 3, cells := 1, slots := 8, locals := 40 } : Room).cells ({ frames := 3, cells := 1, slots := 8, locals := 40 } : Room).slots) _
  refine own_cast (ef_in4B m a ca kc cs_) ?_
  have K0 := Keep.refl h0 [a]
  show own_Ends _ _ _ _ (s₁.setTop (mkF m 0 #[.val (.ref a), .val (.ref ca), .val (.int 0), .val (.int 8), .val .null, .unset] []))
  refine own_to (fun _ kont => XS.aloadN X0.here hx rfl (hb hby d2_0) rfl rfl kont) ?_
  show own_Ends _ _ _ _ (s₁.setTop (mkF m 1 #[.val (.ref a), .val (.ref ca), .val (.int 0), .val (.int 8), .val .null, .unset] [(.ref a)]))
  obtain ⟨T1, X1, e1, st1⟩ := initO X0 hx hZ hown (ow11 hw) (ow12 hw) (ow13 hw) e0 (g := (mkF m 1 #[.val (.ref a), .val (.ref ca), .val (.int (0 : Int32)), .val (.int (8 : Int32)), .val .null, .unset] [(.ref a)])) rfl (by rw [hml]; rfl) rfl (hb hby d2_1) (by decide) (W := 0) (by show 2 * 0 + _ ≤ _; exact Nat.le_of_eq rfl) (by decide)
  refine own_to st1 ?_
  show own_Ends _ _ _ _ (T1.setTop (mkF m 4 #[.val (.ref a), .val (.ref ca), .val (.int 0), .val (.int 8), .val .null, .unset] []))
  refine own_to (fun _ kont => XS.iloadN X1.here hx rfl (hb hby d2_4) rfl kont) ?_
  show own_Ends _ _ _ _ (T1.setTop (mkF m 5 #[.val (.ref a), .val (.ref ca), .val (.int 0), .val (.int 8), .val .null, .unset] [(.int 8)]))
  refine own_to (fun _ kont => XS.ifYes X1.here hx rfl (pc0 := 5) (pc' := 27) rfl (hb hby d2_5) rfl ((if0 _ _).trans (feq (by decide)).2) (by decide) (by decide) kont) ?_
  show own_Ends _ _ _ _ (T1.setTop (mkF m 27 #[.val (.ref a), .val (.ref ca), .val (.int 0), .val (.int 8), .val .null, .unset] []))
  obtain ⟨T2, X2, e2, st2⟩ := getS2 X1 hx hZ hown (host := "") (Or.inl (ow14 hw)) Via.refl e1 (S_cs.ext O0.2) (g := (mkF m 27 #[.val (.ref a), .val (.ref ca), .val (.int (0 : Int32)), .val (.int (8 : Int32)), .val .null, .unset] [])) rfl (hb hby d2_27)
  refine own_to st2 ?_
  show own_Ends _ _ _ _ (T2.setTop (mkF m 30 #[.val (.ref a), .val (.ref ca), .val (.int 0), .val (.int 8), .val .null, .unset] [(.int cs_)]))
  refine own_to (fun _ kont => XS.ifNo X2.here hx rfl (hb hby d2_30) rfl ((if0 _ _).trans (feq hcs).1) kont) ?_
  show own_Ends _ _ _ _ (T2.setTop (mkF m 33 #[.val (.ref a), .val (.ref ca), .val (.int 0), .val (.int 8), .val .null, .unset] []))
  refine own_to (fun _ kont => XS.aloadN X2.here hx rfl (hb hby d2_33) rfl rfl kont) ?_
  show own_Ends _ _ _ _ (T2.setTop (mkF m 34 #[.val (.ref a), .val (.ref ca), .val (.int 0), .val (.int 8), .val .null, .unset] [(.ref ca)]))
  refine own_to (fun _ kont => XS.iloadN X2.here hx rfl (hb hby d2_34) rfl kont) ?_
  show own_Ends _ _ _ _ (T2.setTop (mkF m 35 #[.val (.ref a), .val (.ref ca), .val (.int 0), .val (.int 8), .val .null, .unset] [(.int 0), (.ref ca)]))
  refine own_to (fun _ kont => XS.iloadN X2.here hx rfl (hb hby d2_35) rfl kont) ?_
  show own_Ends _ _ _ _ (T2.setTop (mkF m 36 #[.val (.ref a), .val (.ref ca), .val (.int 0), .val (.int 8), .val .null, .unset] [(.int 8), (.int 0), (.ref ca)]))
  obtain ⟨_, _, ⟨T3, L3, k3, n3⟩, -, X3, ⟨Lc3, hQ3, l3, y3, z3⟩, st3⟩ := Jvm.LawKit.callS X2 hx (y := oM1) hown (mvT hZ (ow15 hw)) (mvT hZ (ow16 hw)) (mvT hZ (ow17 hw)) (mvT hZ (ow18 hw)) (by decide) (backOf (W := 0) (cp1B l Z a0 hw [] ca kc h0 n0 O0 V_c) hZ (ow18 hw) (ow17 hw) (by decide) (by decide)) (g := (mkF m 36 #[.val (.ref a), .val (.ref ca), .val (.int (0 : Int32)), .val (.int (8 : Int32)), .val .null, .unset] [(.int (8 : Int32)), (.int (0 : Int32)), (.ref ca)])) rfl (by rw [hml]; rfl) (argsL := [(.ref ca), (.int (0 : Int32)), (.int (8 : Int32))]) (rest := []) (lenOf pd_1 rfl) rfl (by show 2 * 0 + _ ≤ _; exact Nat.le_of_eq rfl) (hb hby d2_36) (fun _ _ => ⟨rfl, e2, (own_le rfl), (own_le rfl)⟩)
  dsimp only [Pt.U, Pt.locs, Pt.cells, Pt.slots] at X3 l3 y3 z3 st3 hQ3
  subst l3 y3 z3
  obtain ⟨u3, ku3, rfl, g_u3, sq_u3, N3q, Oq3, Kq3, Vx3⟩ := hQ3
  have N3 := Fr.app N0 N3q
  have ne_ca_u3 : ca ≠ u3 := Nat.ne_of_lt (Nat.lt_of_lt_of_le V_c.lt sq_u3)
  have ne_a_u3 : a ≠ u3 := Nat.ne_of_lt (Nat.lt_of_lt_of_le E_a.lt sq_u3)
  have sz_u3 : h0.size ≤ u3 := Nat.le_trans K0.1 sq_u3
  have KK3 := K0.trans Kq3 all0
  refine own_to st3 ?_
  show own_Ends _ _ _ _ (T3.setTop (mkF m 39 #[.val (.ref a), .val (.ref ca), .val (.int 0), .val (.int 8), .val .null, .unset] [(.ref u3)]))
  refine own_to (fun _ kont => XS.astore X3.here hx rfl (hb hby d2_39) rfl rfl (l' := #[.val (.ref a), .val (.ref ca), .val (.int (0 : Int32)), .val (.int (8 : Int32)), .val .null, .val (.ref u3)]) rfl kont) ?_
  show own_Ends _ _ _ _ (T3.setTop (mkF m 41 #[.val (.ref a), .val (.ref ca), .val (.int 0), .val (.int 8), .val .null, .val (.ref u3)] []))
  refine own_to (fun _ kont => XS.aloadN X3.here hx rfl (hb hby d2_41) rfl rfl kont) ?_
  show own_Ends _ _ _ _ (T3.setTop (mkF m 42 #[.val (.ref a), .val (.ref ca), .val (.int 0), .val (.int 8), .val .null, .val (.ref u3)] [(.ref a)]))
  refine own_to (fun _ kont => XS.aload X3.here hx rfl (hb hby d2_42) rfl rfl kont) ?_
  show own_Ends _ _ _ _ (T3.setTop (mkF m 44 #[.val (.ref a), .val (.ref ca), .val (.int 0), .val (.int 8), .val .null, .val (.ref u3)] [(.ref u3), (.ref a)]))
  refine own_to (fun _ kont => XS.iloadN X3.here hx rfl (hb hby d2_44) rfl kont) ?_
  show own_Ends _ _ _ _ (T3.setTop (mkF m 45 #[.val (.ref a), .val (.ref ca), .val (.int 0), .val (.int 8), .val .null, .val (.ref u3)] [(.int 8), (.ref u3), (.ref a)]))
  obtain ⟨_, _, ⟨T4, L4, k4, n4⟩, -, X4, ⟨Lc4, hQ4, l4, y4, z4⟩, st4⟩ := Jvm.LawKit.callS X3 hx (y := oM2) hown (mvT hZ (ow23 hw)) (mvT hZ (ow24 hw)) (mvT hZ (ow17 hw)) (mvT hZ (ow25 hw)) (by decide) (backOf (W := 1) (cflB l Z a0 hw [] u3 ku3 T3.heap n0 Oq3 Vx3) hZ (ow25 hw) (ow17 hw) (by decide) (by decide)) (g := (mkF m 45 #[.val (.ref a), .val (.ref ca), .val (.int (0 : Int32)), .val (.int (8 : Int32)), .val .null, .val (.ref u3)] [(.int (8 : Int32)), (.ref u3), (.ref a)])) rfl (by rw [hml]; rfl) (argsL := [(.ref u3), (.int (8 : Int32))]) (rest := [(.ref a)]) (lenOf pd_2 rfl) rfl (by show 2 * 0 + _ ≤ _; exact Nat.le_of_eq rfl) (hb hby d2_45) (fun _ _ => ⟨rfl, rfl, (own_le rfl), (own_le rfl)⟩)
  dsimp only [Pt.U, Pt.locs, Pt.cells, Pt.slots] at X4 l4 y4 z4 st4 hQ4
  subst l4 y4 z4
  obtain ⟨rfl, N4q, E4⟩ := hQ4
  have N4 := Fr.app N3 N4q
  refine own_to st4 ?_
  show own_Ends _ _ _ _ (T4.setTop (mkF m 48 #[.val (.ref a), .val (.ref ca), .val (.int 0), .val (.int 8), .val .null, .val (.ref u3)] [(.int 0), (.ref a)]))
  obtain ⟨T5, h5, X5, e5, W5, st5⟩ := putFN X4 hx hZ hown (ow26 hw) Via.refl E4 (F_c.keep Kq3 nin0) (E_a.keep Kq3) (Or.inr ⟨(ow27 hw), rfl, hnm⟩) (ow2 hw) (ty := .byte) (v' := (.int (nar .byte (0 : Int32)))) (by decide) rfl (fits_nar_byte _) (g := (mkF m 48 #[.val (.ref a), .val (.ref ca), .val (.int (0 : Int32)), .val (.int (8 : Int32)), .val .null, .val (.ref u3)] [(.int (0 : Int32)), (.ref a)])) rfl rfl (hb hby d2_48)
  refine own_to st5 ?_
  have Fw5 : Fld Z h5 a "java/lang/String" "coder" "B" (.int (0 : Int32)) := (F_c.keep Kq3 nin0).same W5
  have O5 := Oq3.wr W5 g_a
  have N5 := Fr.snoc X5 N4 g_a
  have K5 := KK3.wr W5 (Or.inl (List.mem_of_getElem? (i := 0) rfl))
  show own_Ends _ _ _ _ (T5.setTop (mkF m 51 #[.val (.ref a), .val (.ref ca), .val (.int 0), .val (.int 8), .val .null, .val (.ref u3)] []))
  refine own_to (fun _ kont => XS.aloadN X5.here hx rfl (hb hby d2_51) rfl rfl kont) ?_
  show own_Ends _ _ _ _ (T5.setTop (mkF m 52 #[.val (.ref a), .val (.ref ca), .val (.int 0), .val (.int 8), .val .null, .val (.ref u3)] [(.ref a)]))
  refine own_to (fun _ kont => XS.aload X5.here hx rfl (hb hby d2_52) rfl rfl kont) ?_
  show own_Ends _ _ _ _ (T5.setTop (mkF m 54 #[.val (.ref a), .val (.ref ca), .val (.int 0), .val (.int 8), .val .null, .val (.ref u3)] [(.ref u3), (.ref a)]))
  obtain ⟨T6, h6, X6, e6, W6, st6⟩ := putF X5 hx hZ hown (host := "") (Or.inl (ow28 hw)) Via.refl e5 ((F_v.keep Kq3 nin0).other W5 (Or.inr (slot_ne (Or.inr (ow29 hw)) (Or.inr (ow27 hw)) (by decide) (t := (.array .byte)) (t' := .byte) (by decide) (by decide)))) ((E_a.keep Kq3).wr W5) (Or.inr ⟨(ow29 hw), rfl, hnm⟩) (ow2 hw) (ty := (.array .byte)) (by decide) rfl rfl (g := (mkF m 54 #[.val (.ref a), .val (.ref ca), .val (.int (0 : Int32)), .val (.int (8 : Int32)), .val .null, .val (.ref u3)] [(.ref u3), (.ref a)])) rfl rfl (hb hby d2_54)
  refine own_to st6 ?_
  have Fw6 : Fld Z h6 a "java/lang/String" "value" "[B" (.ref u3) := ((F_v.keep Kq3 nin0).other W5 (Or.inr (slot_ne (Or.inr (ow29 hw)) (Or.inr (ow27 hw)) (by decide) (t := (.array .byte)) (t' := .byte) (by decide) (by decide)))).same W6
  have O6 := O5.wr W6 g_a
  have N6 := Fr.snoc X6 N5 g_a
  have K6 := K5.wr W6 (Or.inl (List.mem_of_getElem? (i := 0) rfl))
  show own_Ends _ _ _ _ (T6.setTop (mkF m 57 #[.val (.ref a), .val (.ref ca), .val (.int 0), .val (.int 8), .val .null, .val (.ref u3)] []))
  refine own_leave X6 (v := none) (fun _ => rfl) ?_ (by decide) (by decide) (fun fs hr => X6.returnOut hx Bd.returns (hb hby d2_57) hr)
  show Q_in4B Z a ca kc cs_ h0 n0 _ T6.heap _
  rw [e6]
  exact ⟨rfl, N6, O6, K6, (((E_a.keep Kq3).wr W5).wr W6), (Fw5.other W6 (Or.inr (slot_ne (Or.inr (ow27 hw)) (Or.inr (ow29 hw)) (by decide) (t := .byte) (t' := (.array .byte)) (by decide) (by decide)))), u3, ku3, g_u3, sz_u3, Fw6, ((Vx3.other W5 (Ne.symm ne_a_u3)).other W6 (Ne.symm ne_a_u3))⟩
theorem ef_in1B (m : MethodId) (a : Addr) (ca : Addr) : entryFrame m #[(.ref a), (.ref ca)] 2 = mkF m 0 #[.val (.ref a), .val (.ref ca)] [] := by first | (simp [entryFrame, mkF, argsToLocals, Value.category]; done) | rfl | (rcases ref_cases hrf with rfl | ⟨q, rfl⟩ <;> rfl)
def Q_in1B (Z : State) (a : Addr) (ca : Addr) (kc : ClassId) (cs_ : Int32) (h0 : Heap) (n0 : Nat) (v : Option Value) (h : Heap) (L : List Loc) : Prop := v = none ∧ Fr n0 L ∧ Old Z n0 h ∧ Keep h0 h [a] ∧ Exa Z h a "java/lang/String" ∧ Fld Z h a "java/lang/String" "coder" "B" (.int (0 : Int32)) ∧ ∃ (b : Addr) (kb : ClassId), n0 ≤ b ∧ h0.size ≤ b ∧ Fld Z h a "java/lang/String" "value" "[B" (.ref b) ∧ Arv Z h b kb .byte (8 : Int32) [(.int (114 : Int32)), (.int (101 : Int32)), (.int (103 : Int32)), (.int (105 : Int32)), (.int (115 : Int32)), (.int (116 : Int32)), (.int (114 : Int32)), (.int (121 : Int32))] (.int (0 : Int32))
set_option maxRecDepth 65536 in
set_option maxHeartbeats 40000000 in
theorem in1B (l : Launch) (Z : State) (a0 : Array Value) (hw : ∀ d ∈ tables_1, d.before a0 Z = true) (ws : List Jvm.Cond) (a : Addr) (ca : Addr) (kc : ClassId) (cs_ : Int32) (h0 : Heap) (n0 : Nat) (O0 : Old Z n0 h0) (g_a : n0 ≤ a) (E_a : Exa Z h0 a "java/lang/String") (F_v : Fld Z h0 a "java/lang/String" "value" "[B" .null) (F_c : Fld Z h0 a "java/lang/String" "coder" "B" (.int (0 : Int32))) (V_c : Arv Z h0 ca kc .char (8 : Int32) [(.int (114 : Int32)), (.int (101 : Int32)), (.int (103 : Int32)), (.int (105 : Int32)), (.int (115 : Int32)), (.int (116 : Int32)), (.int (114 : Int32)), (.int (121 : Int32))] (.int (0 : Int32))) (ne_ca_a : ca ≠ a) (S_cs : Sta Z Z.heap "java/lang/String" "COMPACT_STRINGS" "Z" (.int cs_)) (hcs : ¬ cs_ = (0 : Int32)) :
    MetFree l oM4 (head1 (Jvm.Cond.code oM4 jdk_42_method_3_code 2 none :: ws) ({ frames := 4, cells := 1, slots := 8, locals := 64 } : Room)) (fun aq_ U => aq_ = #[(.ref a), (.ref ca)] ∧ Z.Warmed39 U.vm ∧ U.heap = h0) (fun _ _ _ _ _ => True) (fun _ U o U' => ∃ v L, o = .returned v ∧ Q_in1B Z a ca kc cs_ h0 n0 v U'.heap L ∧ FrameEnd U o U' L ({ frames := 4, cells := 1, slots := 8, locals := 64 } : Room).cells ({ frames := 4, cells := 1, slots := 8, locals := 64 } : Room).slots) := by
  refine MetFree.of_bodySF (plainFor_of_name pn_1) hisR ?_
  intro p e s m args below meth c s₁ Bd hml0 hP hK
  obtain ⟨rfl, hZ, hh⟩ := hP
  have hx := Bd.exec
  have hby := Bd.bytes
  have hml : c.maxLocals = 2 := hml0
  have hown : s.vm.findClass "java/lang/String" = some m.cls := findClass_of_methodNamed Bd.named
  have hnm := (name_of_methodNamed Bd.named Bd.method).1
  have X0 : Stand p l e ({ frames := 4, cells := 1, slots := 8, locals := 64 } : Room) s m #[(.ref a), (.ref ca)] below meth c s₁ [] 0 0 := Stand.of_body Bd
  have e0 : s₁.heap = h0 := by rw [← hh, Bd.state]; rfl
  have N0 := Fr.nil n0
  show own_Ends p.tables e below (own_P s (Q_in1B Z a ca kc cs_ h0 n0) ({ frames := 4, cells := 1, slots := 8, locals := 64 } : Room).cells ({ frames := 4, cells := 1, slots := 8, locals := 64 } : Room).slots) _
  refine own_cast (ef_in1B m a ca) ?_
  have K0 := Keep.refl h0 [a]
  show own_Ends _ _ _ _ (s₁.setTop (mkF m 0 #[.val (.ref a), .val (.ref ca)] []))
  refine own_to (fun _ kont => XS.aloadN X0.here hx rfl (hb hby d1_0) rfl rfl kont) ?_
  show own_Ends _ _ _ _ (s₁.setTop (mkF m 1 #[.val (.ref a), .val (.ref ca)] [(.ref a)]))
  refine own_to (fun _ kont => XS.aloadN X0.here hx rfl (hb hby d1_1) rfl rfl kont) ?_
  show own_Ends _ _ _ _ (s₁.setTop (mkF m 2 #[.val (.ref a), .val (.ref ca)] [(.ref ca), (.ref a)]))
  refine own_to (fun _ kont => XS.iconst X0.here hx rfl (hb hby d1_2) kont) ?_
  show own_Ends _ _ _ _ (s₁.setTop (mkF m 3 #[.val (.ref a), .val (.ref ca)] [(.int 0), (.ref ca), (.ref a)]))
  refine own_to (fun _ kont => XS.aloadN X0.here hx rfl (hb hby d1_3) rfl rfl kont) ?_
  show own_Ends _ _ _ _ (s₁.setTop (mkF m 4 #[.val (.ref a), .val (.ref ca)] [(.ref ca), (.int 0), (.ref ca), (.ref a)]))
  obtain ⟨cl1, Ar1, q1, S1, M1, -, -⟩ := id V_c
  refine own_to (fun _ kont => X0.arraylength hx (by rw [e0]; exact Ar1.1) (State.isArrayOf_alike hZ.alike Ar1.2.1) (g := (mkF m 4 #[.val (.ref a), .val (.ref ca)] [(.ref ca), (.int (0 : Int32)), (.ref ca), (.ref a)])) rfl rfl (hb hby d1_4) _ kont) ?_
  rw [len_of S1 M1]
  show own_Ends _ _ _ _ (s₁.setTop (mkF m 5 #[.val (.ref a), .val (.ref ca)] [(.int 8), (.int 0), (.ref ca), (.ref a)]))
  refine own_to (fun _ kont => XS.aconstNull X0.here hx rfl (hb hby d1_5) kont) ?_
  show own_Ends _ _ _ _ (s₁.setTop (mkF m 6 #[.val (.ref a), .val (.ref ca)] [.null, (.int 8), (.int 0), (.ref ca), (.ref a)]))
  obtain ⟨_, _, ⟨T2, L2, k2, n2⟩, -, X2, ⟨Lc2, hQ2, l2, y2, z2⟩, st2⟩ := X0.specialBack hx (y := oM3) rfl hown (mvT hZ (ow7 hw)) (mvT hZ (ow8 hw)) (mvT hZ (ow10 hw)) (by decide) (backOf (W := 0) (in4B l Z a0 hw [] a ca kc cs_ h0 n0 O0 g_a E_a F_v F_c V_c ne_ca_a S_cs hcs) hZ (ow10 hw) (ow3 hw) (by decide) (by decide)) (g := (mkF m 6 #[.val (.ref a), .val (.ref ca)] [.null, (.int (8 : Int32)), (.int (0 : Int32)), (.ref ca), (.ref a)])) rfl (by rw [hml]; rfl) (Steps.refl _) (a := a) (argsL := [(.ref ca), (.int (0 : Int32)), (.int (8 : Int32)), .null]) (rest := []) (lenOf pd_3 rfl) rfl (by show 2 * 0 + _ ≤ _; exact Nat.le_of_eq rfl) (hb hby d1_6) (fun _ _ => ⟨rfl, e0, (own_le rfl), (own_le rfl)⟩)
  dsimp only [Pt.U, Pt.locs, Pt.cells, Pt.slots] at X2 l2 y2 z2 st2 hQ2
  subst l2 y2 z2
  obtain ⟨rfl, N2q, Oq2, Kq2, Ex2, Fc2, u2, ku2, g_u2, sq_u2, Fv2, Vx2⟩ := hQ2
  have N2 := Fr.app N0 N2q
  have ne_ca_u2 : ca ≠ u2 := Nat.ne_of_lt (Nat.lt_of_lt_of_le V_c.lt sq_u2)
  have ne_a_u2 : a ≠ u2 := Nat.ne_of_lt (Nat.lt_of_lt_of_le E_a.lt sq_u2)
  have sz_u2 : h0.size ≤ u2 := Nat.le_trans K0.1 sq_u2
  have KK2 := K0.trans Kq2 (allS (Or.inl (List.mem_of_getElem? (i := 0) rfl)) all0)
  refine own_tr st2 ?_
  show own_Ends _ _ _ _ (T2.setTop (mkF m 9 #[.val (.ref a), .val (.ref ca)] []))
  refine own_leave X2 (v := none) (fun _ => rfl) ?_ (by decide) (by decide) (fun fs hr => X2.returnOut hx Bd.returns (hb hby d1_9) hr)
  show Q_in1B Z a ca kc cs_ h0 n0 _ T2.heap _
  exact ⟨rfl, N2, Oq2, KK2, Ex2, Fc2, u2, ku2, g_u2, sz_u2, Fv2, Vx2⟩
theorem d10_0 : decode jdk_43_method_13_code 0 = .ok (.aload_n 0, 1) := by decide +kernel
theorem d10_1 : decode jdk_43_method_13_code 1 = .ok (.arraylength, 1) := by decide +kernel
theorem d10_2 : decode jdk_43_method_13_code 2 = .ok (.aload_n 1, 1) := by decide +kernel
theorem d10_3 : decode jdk_43_method_13_code 3 = .ok (.arraylength, 1) := by decide +kernel
theorem d10_4 : decode jdk_43_method_13_code 4 = .ok (.if_icmp .ne 30, 3) := by decide +kernel
theorem d10_7 : decode jdk_43_method_13_code 7 = .ok (.iconst 0, 1) := by decide +kernel
theorem d10_8 : decode jdk_43_method_13_code 8 = .ok (.istore_n 2, 1) := by decide +kernel
theorem d10_9 : decode jdk_43_method_13_code 9 = .ok (.iload_n 2, 1) := by decide +kernel
theorem d10_10 : decode jdk_43_method_13_code 10 = .ok (.aload_n 0, 1) := by decide +kernel
theorem d10_11 : decode jdk_43_method_13_code 11 = .ok (.arraylength, 1) := by decide +kernel
theorem d10_12 : decode jdk_43_method_13_code 12 = .ok (.if_icmp .ge 20, 3) := by decide +kernel
theorem d10_15 : decode jdk_43_method_13_code 15 = .ok (.aload_n 0, 1) := by decide +kernel
theorem d10_16 : decode jdk_43_method_13_code 16 = .ok (.iload_n 2, 1) := by decide +kernel
theorem d10_17 : decode jdk_43_method_13_code 17 = .ok (.baload, 1) := by decide +kernel
theorem d10_18 : decode jdk_43_method_13_code 18 = .ok (.aload_n 1, 1) := by decide +kernel
theorem d10_19 : decode jdk_43_method_13_code 19 = .ok (.iload_n 2, 1) := by decide +kernel
theorem d10_20 : decode jdk_43_method_13_code 20 = .ok (.baload, 1) := by decide +kernel
theorem d10_21 : decode jdk_43_method_13_code 21 = .ok (.if_icmp .eq 5, 3) := by decide +kernel
theorem d10_26 : decode jdk_43_method_13_code 26 = .ok (.iinc 2 1, 3) := by decide +kernel
theorem d10_29 : decode jdk_43_method_13_code 29 = .ok (.goto (-20), 3) := by decide +kernel
theorem d10_32 : decode jdk_43_method_13_code 32 = .ok (.iconst 1, 1) := by decide +kernel
theorem d10_33 : decode jdk_43_method_13_code 33 = .ok (.ireturn, 1) := by decide +kernel
theorem pn_10 : plainName "java/lang/StringLatin1" = true := by first | (simp [plainName, overriddenIn]; done) | decide +kernel
theorem ef_leqAA (m : MethodId) (va : Addr) (vb : Addr) : entryFrame m #[(.ref va), (.ref vb)] 3 = mkF m 0 #[.val (.ref va), .val (.ref vb), .unset] [] := by first | (simp [entryFrame, mkF, argsToLocals, Value.category]; done) | rfl | (rcases ref_cases hrf with rfl | ⟨q, rfl⟩ <;> rfl)
def Q_leqAA (Z : State) (va : Addr) (vb : Addr) (ka : ClassId) (kb : ClassId) (h0 : Heap) (n0 : Nat) (v : Option Value) (h : Heap) (L : List Loc) : Prop := v = some (.int (1 : Int32)) ∧ Fr n0 L ∧ h = h0
set_option maxRecDepth 65536 in
set_option maxHeartbeats 40000000 in
theorem leqAA (l : Launch) (Z : State) (a0 : Array Value) (hw : ∀ d ∈ tables_1, d.before a0 Z = true) (ws : List Jvm.Cond) (va : Addr) (vb : Addr) (ka : ClassId) (kb : ClassId) (h0 : Heap) (n0 : Nat) (O0 : Old Z n0 h0) (V_x : Arv Z h0 va ka .byte (3 : Int32) [(.int (109 : Int32)), (.int (115 : Int32)), (.int (105 : Int32))] (.int (0 : Int32))) (V_y : Arv Z h0 vb kb .byte (3 : Int32) [(.int (109 : Int32)), (.int (115 : Int32)), (.int (105 : Int32))] (.int (0 : Int32))) :
    MetFree l oM5 (head1 (Jvm.Cond.code oM5 jdk_43_method_13_code 3 (some .boolean) :: ws) ({ frames := 0, cells := 0, slots := 0, locals := 0 } : Room)) (fun aq_ U => aq_ = #[(.ref va), (.ref vb)] ∧ Z.Warmed39 U.vm ∧ U.heap = h0) (fun _ _ _ _ _ => True) (fun _ U o U' => ∃ v L, o = .returned v ∧ Q_leqAA Z va vb ka kb h0 n0 v U'.heap L ∧ FrameEnd U o U' L ({ frames := 0, cells := 0, slots := 0, locals := 0 } : Room).cells ({ frames := 0, cells := 0, slots := 0, locals := 0 } : Room).slots) := by
  refine MetFree.of_bodySF (plainFor_of_name pn_10) hisR ?_
  intro p e s m args below meth c s₁ Bd hml0 hP hK
  obtain ⟨rfl, hZ, hh⟩ := hP
  have hx := Bd.exec
  have hby := Bd.bytes
  have hml : c.maxLocals = 3 := hml0
  have hown : s.vm.findClass "java/lang/StringLatin1" = some m.cls := findClass_of_methodNamed Bd.named
  have hnm := (name_of_methodNamed Bd.named Bd.method).1
  have X0 : Stand p l e ({ frames := 0, cells := 0, slots := 0, locals := 0 } : Room) s m #[(.ref va), (.ref vb)] below meth c s₁ [] 0 0 := Stand.of_body Bd
  have e0 : s₁.heap = h0 := by rw [← hh, Bd.state]; rfl
  have N0 := Fr.nil n0
  show own_Ends p.tables e below (own_P s (Q_leqAA Z va vb ka kb h0 n0) ({ frames := 0, cells := 0, slots := 0, locals := 0 } : Room).cells ({ frames := 0, cells := 0, slots := 0, locals := 0 } : Room).slots) _
  refine own_cast (ef_leqAA m va vb) ?_
  show own_Ends _ _ _ _ (s₁.setTop (mkF m 0 #[.val (.ref va), .val (.ref vb), .unset] []))
  refine own_to (fun _ kont => XS.aloadN X0.here hx rfl (hb hby d10_0) rfl rfl kont) ?_
  show own_Ends _ _ _ _ (s₁.setTop (mkF m 1 #[.val (.ref va), .val (.ref vb), .unset] [(.ref va)]))
  obtain ⟨cl1, Ar1, q1, S1, M1, -, -⟩ := id V_x
  refine own_to (fun _ kont => X0.arraylength hx (by rw [e0]; exact Ar1.1) (State.isArrayOf_alike hZ.alike Ar1.2.1) (g := (mkF m 1 #[.val (.ref va), .val (.ref vb), .unset] [(.ref va)])) rfl rfl (hb hby d10_1) _ kont) ?_
  rw [len_of S1 M1]
  show own_Ends _ _ _ _ (s₁.setTop (mkF m 2 #[.val (.ref va), .val (.ref vb), .unset] [(.int 3)]))
  refine own_to (fun _ kont => XS.aloadN X0.here hx rfl (hb hby d10_2) rfl rfl kont) ?_
  show own_Ends _ _ _ _ (s₁.setTop (mkF m 3 #[.val (.ref va), .val (.ref vb), .unset] [(.ref vb), (.int 3)]))
  obtain ⟨cl2, Ar2, q2, S2, M2, -, -⟩ := id V_y
  refine own_to (fun _ kont => X0.arraylength hx (by rw [e0]; exact Ar2.1) (State.isArrayOf_alike hZ.alike Ar2.2.1) (g := (mkF m 3 #[.val (.ref va), .val (.ref vb), .unset] [(.ref vb), (.int (3 : Int32))])) rfl rfl (hb hby d10_3) _ kont) ?_
  rw [len_of S2 M2]
  show own_Ends _ _ _ _ (s₁.setTop (mkF m 4 #[.val (.ref va), .val (.ref vb), .unset] [(.int 3), (.int 3)]))
  refine own_to (fun _ kont => XS.icmpNo X0.here hx rfl (hb hby d10_4) rfl (teq (by decide)).2 kont) ?_
  show own_Ends _ _ _ _ (s₁.setTop (mkF m 7 #[.val (.ref va), .val (.ref vb), .unset] []))
  refine own_to (fun _ kont => XS.iconst X0.here hx rfl (hb hby d10_7) kont) ?_
  show own_Ends _ _ _ _ (s₁.setTop (mkF m 8 #[.val (.ref va), .val (.ref vb), .unset] [(.int 0)]))
  refine own_to (fun _ kont => XS.istoreN X0.here hx rfl (hb hby d10_8) rfl (l' := #[.val (.ref va), .val (.ref vb), .val (.int (0 : Int32))]) rfl kont) ?_
  show own_Ends _ _ _ _ (s₁.setTop (mkF m 9 #[.val (.ref va), .val (.ref vb), .val (.int 0)] []))
  refine own_to (fun _ kont => XS.iloadN X0.here hx rfl (hb hby d10_9) rfl kont) ?_
  show own_Ends _ _ _ _ (s₁.setTop (mkF m 10 #[.val (.ref va), .val (.ref vb), .val (.int 0)] [(.int 0)]))
  refine own_to (fun _ kont => XS.aloadN X0.here hx rfl (hb hby d10_10) rfl rfl kont) ?_
  show own_Ends _ _ _ _ (s₁.setTop (mkF m 11 #[.val (.ref va), .val (.ref vb), .val (.int 0)] [(.ref va), (.int 0)]))
  obtain ⟨cl3, Ar3, q3, S3, M3, -, -⟩ := id V_x
  refine own_to (fun _ kont => X0.arraylength hx (by rw [e0]; exact Ar3.1) (State.isArrayOf_alike hZ.alike Ar3.2.1) (g := (mkF m 11 #[.val (.ref va), .val (.ref vb), .val (.int (0 : Int32))] [(.ref va), (.int (0 : Int32))])) rfl rfl (hb hby d10_11) _ kont) ?_
  rw [len_of S3 M3]
  show own_Ends _ _ _ _ (s₁.setTop (mkF m 12 #[.val (.ref va), .val (.ref vb), .val (.int 0)] [(.int 3), (.int 0)]))
  refine own_to (fun _ kont => XS.icmpNo X0.here hx rfl (hb hby d10_12) rfl (tlt (by decide)).2.1 kont) ?_
  show own_Ends _ _ _ _ (s₁.setTop (mkF m 15 #[.val (.ref va), .val (.ref vb), .val (.int 0)] []))
  refine own_to (fun _ kont => XS.aloadN X0.here hx rfl (hb hby d10_15) rfl rfl kont) ?_
  show own_Ends _ _ _ _ (s₁.setTop (mkF m 16 #[.val (.ref va), .val (.ref vb), .val (.int 0)] [(.ref va)]))
  refine own_to (fun _ kont => XS.iloadN X0.here hx rfl (hb hby d10_16) rfl kont) ?_
  show own_Ends _ _ _ _ (s₁.setTop (mkF m 17 #[.val (.ref va), .val (.ref vb), .val (.int 0)] [(.int 0), (.ref va)]))
  obtain ⟨cl4, Ar4, q4, S4, M4, H4, G4⟩ := id V_x
  have hin4 : ¬ ((0 : Int32) < 0 ∨ cl4.slots.size ≤ ((0 : Int32)).toNatClampNeg) := inb_of S4 ⟨by decide, by decide⟩
  have hat4 : cl4.slots[((0 : Int32)).toNatClampNeg]? = some (.int (109 : Int32)) := Has.at H4 hin4 rfl
  refine own_to (fun _ kont => X0.baloadBytes hx (j := (0 : Int32)) (v := (.int (109 : Int32))) (by rw [e0]; exact Ar4.1) (State.isArrayOf_alike hZ.alike Ar4.2.1) Ar4.2.2 hin4 hat4 (g := (mkF m 17 #[.val (.ref va), .val (.ref vb), .val (.int (0 : Int32))] [(.int (0 : Int32)), (.ref va)])) rfl rfl (hb hby d10_17) _ kont) ?_
  show own_Ends _ _ _ _ (s₁.setTop (mkF m 18 #[.val (.ref va), .val (.ref vb), .val (.int 0)] [(.int 109)]))
  refine own_to (fun _ kont => XS.aloadN X0.here hx rfl (hb hby d10_18) rfl rfl kont) ?_
  show own_Ends _ _ _ _ (s₁.setTop (mkF m 19 #[.val (.ref va), .val (.ref vb), .val (.int 0)] [(.ref vb), (.int 109)]))
  refine own_to (fun _ kont => XS.iloadN X0.here hx rfl (hb hby d10_19) rfl kont) ?_
  show own_Ends _ _ _ _ (s₁.setTop (mkF m 20 #[.val (.ref va), .val (.ref vb), .val (.int 0)] [(.int 0), (.ref vb), (.int 109)]))
  obtain ⟨cl5, Ar5, q5, S5, M5, H5, G5⟩ := id V_y
  have hin5 : ¬ ((0 : Int32) < 0 ∨ cl5.slots.size ≤ ((0 : Int32)).toNatClampNeg) := inb_of S5 ⟨by decide, by decide⟩
  have hat5 : cl5.slots[((0 : Int32)).toNatClampNeg]? = some (.int (109 : Int32)) := Has.at H5 hin5 rfl
  refine own_to (fun _ kont => X0.baloadBytes hx (j := (0 : Int32)) (v := (.int (109 : Int32))) (by rw [e0]; exact Ar5.1) (State.isArrayOf_alike hZ.alike Ar5.2.1) Ar5.2.2 hin5 hat5 (g := (mkF m 20 #[.val (.ref va), .val (.ref vb), .val (.int (0 : Int32))] [(.int (0 : Int32)), (.ref vb), (.int (109 : Int32))])) rfl rfl (hb hby d10_20) _ kont) ?_
  show own_Ends _ _ _ _ (s₁.setTop (mkF m 21 #[.val (.ref va), .val (.ref vb), .val (.int 0)] [(.int 109), (.int 109)]))
  refine own_to (fun _ kont => XS.icmpYes X0.here hx rfl (pc0 := 21) (pc' := 26) rfl (hb hby d10_21) rfl (teq (by decide)).1 (by decide) (by decide) kont) ?_
  show own_Ends _ _ _ _ (s₁.setTop (mkF m 26 #[.val (.ref va), .val (.ref vb), .val (.int 0)] []))
  refine own_to (fun _ kont => XS.iinc X0.here hx rfl (hb hby d10_26) rfl (l' := #[.val (.ref va), .val (.ref vb), .val (.int (1 : Int32))]) rfl kont) ?_
  show own_Ends _ _ _ _ (s₁.setTop (mkF m 29 #[.val (.ref va), .val (.ref vb), .val (.int 1)] []))
  refine own_to (fun _ kont => XS.goto X0.here hx rfl (pc0 := 29) (pc' := 9) rfl (hb hby d10_29) (by decide) (by decide) kont) ?_
  show own_Ends _ _ _ _ (s₁.setTop (mkF m 9 #[.val (.ref va), .val (.ref vb), .val (.int 1)] []))
  refine own_to (fun _ kont => XS.iloadN X0.here hx rfl (hb hby d10_9) rfl kont) ?_
  show own_Ends _ _ _ _ (s₁.setTop (mkF m 10 #[.val (.ref va), .val (.ref vb), .val (.int 1)] [(.int 1)]))
  refine own_to (fun _ kont => XS.aloadN X0.here hx rfl (hb hby d10_10) rfl rfl kont) ?_
  show own_Ends _ _ _ _ (s₁.setTop (mkF m 11 #[.val (.ref va), .val (.ref vb), .val (.int 1)] [(.ref va), (.int 1)]))
  obtain ⟨cl6, Ar6, q6, S6, M6, -, -⟩ := id V_x
  refine own_to (fun _ kont => X0.arraylength hx (by rw [e0]; exact Ar6.1) (State.isArrayOf_alike hZ.alike Ar6.2.1) (g := (mkF m 11 #[.val (.ref va), .val (.ref vb), .val (.int (1 : Int32))] [(.ref va), (.int (1 : Int32))])) rfl rfl (hb hby d10_11) _ kont) ?_
  rw [len_of S6 M6]
  show own_Ends _ _ _ _ (s₁.setTop (mkF m 12 #[.val (.ref va), .val (.ref vb), .val (.int 1)] [(.int 3), (.int 1)]))
  refine own_to (fun _ kont => XS.icmpNo X0.here hx rfl (hb hby d10_12) rfl (tlt (by decide)).2.1 kont) ?_
  show own_Ends _ _ _ _ (s₁.setTop (mkF m 15 #[.val (.ref va), .val (.ref vb), .val (.int 1)] []))
  refine own_to (fun _ kont => XS.aloadN X0.here hx rfl (hb hby d10_15) rfl rfl kont) ?_
  show own_Ends _ _ _ _ (s₁.setTop (mkF m 16 #[.val (.ref va), .val (.ref vb), .val (.int 1)] [(.ref va)]))
  refine own_to (fun _ kont => XS.iloadN X0.here hx rfl (hb hby d10_16) rfl kont) ?_
  show own_Ends _ _ _ _ (s₁.setTop (mkF m 17 #[.val (.ref va), .val (.ref vb), .val (.int 1)] [(.int 1), (.ref va)]))
  obtain ⟨cl7, Ar7, q7, S7, M7, H7, G7⟩ := id V_x
  have hin7 : ¬ ((1 : Int32) < 0 ∨ cl7.slots.size ≤ ((1 : Int32)).toNatClampNeg) := inb_of S7 ⟨by decide, by decide⟩
  have hat7 : cl7.slots[((1 : Int32)).toNatClampNeg]? = some (.int (115 : Int32)) := Has.at H7 hin7 rfl
  refine own_to (fun _ kont => X0.baloadBytes hx (j := (1 : Int32)) (v := (.int (115 : Int32))) (by rw [e0]; exact Ar7.1) (State.isArrayOf_alike hZ.alike Ar7.2.1) Ar7.2.2 hin7 hat7 (g := (mkF m 17 #[.val (.ref va), .val (.ref vb), .val (.int (1 : Int32))] [(.int (1 : Int32)), (.ref va)])) rfl rfl (hb hby d10_17) _ kont) ?_
  show own_Ends _ _ _ _ (s₁.setTop (mkF m 18 #[.val (.ref va), .val (.ref vb), .val (.int 1)] [(.int 115)]))
  refine own_to (fun _ kont => XS.aloadN X0.here hx rfl (hb hby d10_18) rfl rfl kont) ?_
  show own_Ends _ _ _ _ (s₁.setTop (mkF m 19 #[.val (.ref va), .val (.ref vb), .val (.int 1)] [(.ref vb), (.int 115)]))
  refine own_to (fun _ kont => XS.iloadN X0.here hx rfl (hb hby d10_19) rfl kont) ?_
  show own_Ends _ _ _ _ (s₁.setTop (mkF m 20 #[.val (.ref va), .val (.ref vb), .val (.int 1)] [(.int 1), (.ref vb), (.int 115)]))
  obtain ⟨cl8, Ar8, q8, S8, M8, H8, G8⟩ := id V_y
  have hin8 : ¬ ((1 : Int32) < 0 ∨ cl8.slots.size ≤ ((1 : Int32)).toNatClampNeg) := inb_of S8 ⟨by decide, by decide⟩
  have hat8 : cl8.slots[((1 : Int32)).toNatClampNeg]? = some (.int (115 : Int32)) := Has.at H8 hin8 rfl
  refine own_to (fun _ kont => X0.baloadBytes hx (j := (1 : Int32)) (v := (.int (115 : Int32))) (by rw [e0]; exact Ar8.1) (State.isArrayOf_alike hZ.alike Ar8.2.1) Ar8.2.2 hin8 hat8 (g := (mkF m 20 #[.val (.ref va), .val (.ref vb), .val (.int (1 : Int32))] [(.int (1 : Int32)), (.ref vb), (.int (115 : Int32))])) rfl rfl (hb hby d10_20) _ kont) ?_
  show own_Ends _ _ _ _ (s₁.setTop (mkF m 21 #[.val (.ref va), .val (.ref vb), .val (.int 1)] [(.int 115), (.int 115)]))
  refine own_to (fun _ kont => XS.icmpYes X0.here hx rfl (pc0 := 21) (pc' := 26) rfl (hb hby d10_21) rfl (teq (by decide)).1 (by decide) (by decide) kont) ?_
  show own_Ends _ _ _ _ (s₁.setTop (mkF m 26 #[.val (.ref va), .val (.ref vb), .val (.int 1)] []))
  refine own_to (fun _ kont => XS.iinc X0.here hx rfl (hb hby d10_26) rfl (l' := #[.val (.ref va), .val (.ref vb), .val (.int (2 : Int32))]) rfl kont) ?_
  show own_Ends _ _ _ _ (s₁.setTop (mkF m 29 #[.val (.ref va), .val (.ref vb), .val (.int 2)] []))
  refine own_to (fun _ kont => XS.goto X0.here hx rfl (pc0 := 29) (pc' := 9) rfl (hb hby d10_29) (by decide) (by decide) kont) ?_
  show own_Ends _ _ _ _ (s₁.setTop (mkF m 9 #[.val (.ref va), .val (.ref vb), .val (.int 2)] []))
  refine own_to (fun _ kont => XS.iloadN X0.here hx rfl (hb hby d10_9) rfl kont) ?_
  show own_Ends _ _ _ _ (s₁.setTop (mkF m 10 #[.val (.ref va), .val (.ref vb), .val (.int 2)] [(.int 2)]))
  refine own_to (fun _ kont => XS.aloadN X0.here hx rfl (hb hby d10_10) rfl rfl kont) ?_
  show own_Ends _ _ _ _ (s₁.setTop (mkF m 11 #[.val (.ref va), .val (.ref vb), .val (.int 2)] [(.ref va), (.int 2)]))
  obtain ⟨cl9, Ar9, q9, S9, M9, -, -⟩ := id V_x
  refine own_to (fun _ kont => X0.arraylength hx (by rw [e0]; exact Ar9.1) (State.isArrayOf_alike hZ.alike Ar9.2.1) (g := (mkF m 11 #[.val (.ref va), .val (.ref vb), .val (.int (2 : Int32))] [(.ref va), (.int (2 : Int32))])) rfl rfl (hb hby d10_11) _ kont) ?_
  rw [len_of S9 M9]
  show own_Ends _ _ _ _ (s₁.setTop (mkF m 12 #[.val (.ref va), .val (.ref vb), .val (.int 2)] [(.int 3), (.int 2)]))
  refine own_to (fun _ kont => XS.icmpNo X0.here hx rfl (hb hby d10_12) rfl (tlt (by decide)).2.1 kont) ?_
  show own_Ends _ _ _ _ (s₁.setTop (mkF m 15 #[.val (.ref va), .val (.ref vb), .val (.int 2)] []))
  refine own_to (fun _ kont => XS.aloadN X0.here hx rfl (hb hby d10_15) rfl rfl kont) ?_
  show own_Ends _ _ _ _ (s₁.setTop (mkF m 16 #[.val (.ref va), .val (.ref vb), .val (.int 2)] [(.ref va)]))
  refine own_to (fun _ kont => XS.iloadN X0.here hx rfl (hb hby d10_16) rfl kont) ?_
  show own_Ends _ _ _ _ (s₁.setTop (mkF m 17 #[.val (.ref va), .val (.ref vb), .val (.int 2)] [(.int 2), (.ref va)]))
  obtain ⟨cl10, Ar10, q10, S10, M10, H10, G10⟩ := id V_x
  have hin10 : ¬ ((2 : Int32) < 0 ∨ cl10.slots.size ≤ ((2 : Int32)).toNatClampNeg) := inb_of S10 ⟨by decide, by decide⟩
  have hat10 : cl10.slots[((2 : Int32)).toNatClampNeg]? = some (.int (105 : Int32)) := Has.at H10 hin10 rfl
  refine own_to (fun _ kont => X0.baloadBytes hx (j := (2 : Int32)) (v := (.int (105 : Int32))) (by rw [e0]; exact Ar10.1) (State.isArrayOf_alike hZ.alike Ar10.2.1) Ar10.2.2 hin10 hat10 (g := (mkF m 17 #[.val (.ref va), .val (.ref vb), .val (.int (2 : Int32))] [(.int (2 : Int32)), (.ref va)])) rfl rfl (hb hby d10_17) _ kont) ?_
  show own_Ends _ _ _ _ (s₁.setTop (mkF m 18 #[.val (.ref va), .val (.ref vb), .val (.int 2)] [(.int 105)]))
  refine own_to (fun _ kont => XS.aloadN X0.here hx rfl (hb hby d10_18) rfl rfl kont) ?_
  show own_Ends _ _ _ _ (s₁.setTop (mkF m 19 #[.val (.ref va), .val (.ref vb), .val (.int 2)] [(.ref vb), (.int 105)]))
  refine own_to (fun _ kont => XS.iloadN X0.here hx rfl (hb hby d10_19) rfl kont) ?_
  show own_Ends _ _ _ _ (s₁.setTop (mkF m 20 #[.val (.ref va), .val (.ref vb), .val (.int 2)] [(.int 2), (.ref vb), (.int 105)]))
  obtain ⟨cl11, Ar11, q11, S11, M11, H11, G11⟩ := id V_y
  have hin11 : ¬ ((2 : Int32) < 0 ∨ cl11.slots.size ≤ ((2 : Int32)).toNatClampNeg) := inb_of S11 ⟨by decide, by decide⟩
  have hat11 : cl11.slots[((2 : Int32)).toNatClampNeg]? = some (.int (105 : Int32)) := Has.at H11 hin11 rfl
  refine own_to (fun _ kont => X0.baloadBytes hx (j := (2 : Int32)) (v := (.int (105 : Int32))) (by rw [e0]; exact Ar11.1) (State.isArrayOf_alike hZ.alike Ar11.2.1) Ar11.2.2 hin11 hat11 (g := (mkF m 20 #[.val (.ref va), .val (.ref vb), .val (.int (2 : Int32))] [(.int (2 : Int32)), (.ref vb), (.int (105 : Int32))])) rfl rfl (hb hby d10_20) _ kont) ?_
  show own_Ends _ _ _ _ (s₁.setTop (mkF m 21 #[.val (.ref va), .val (.ref vb), .val (.int 2)] [(.int 105), (.int 105)]))
  refine own_to (fun _ kont => XS.icmpYes X0.here hx rfl (pc0 := 21) (pc' := 26) rfl (hb hby d10_21) rfl (teq (by decide)).1 (by decide) (by decide) kont) ?_
  show own_Ends _ _ _ _ (s₁.setTop (mkF m 26 #[.val (.ref va), .val (.ref vb), .val (.int 2)] []))
  refine own_to (fun _ kont => XS.iinc X0.here hx rfl (hb hby d10_26) rfl (l' := #[.val (.ref va), .val (.ref vb), .val (.int (3 : Int32))]) rfl kont) ?_
  show own_Ends _ _ _ _ (s₁.setTop (mkF m 29 #[.val (.ref va), .val (.ref vb), .val (.int 3)] []))
  refine own_to (fun _ kont => XS.goto X0.here hx rfl (pc0 := 29) (pc' := 9) rfl (hb hby d10_29) (by decide) (by decide) kont) ?_
  show own_Ends _ _ _ _ (s₁.setTop (mkF m 9 #[.val (.ref va), .val (.ref vb), .val (.int 3)] []))
  refine own_to (fun _ kont => XS.iloadN X0.here hx rfl (hb hby d10_9) rfl kont) ?_
  show own_Ends _ _ _ _ (s₁.setTop (mkF m 10 #[.val (.ref va), .val (.ref vb), .val (.int 3)] [(.int 3)]))
  refine own_to (fun _ kont => XS.aloadN X0.here hx rfl (hb hby d10_10) rfl rfl kont) ?_
  show own_Ends _ _ _ _ (s₁.setTop (mkF m 11 #[.val (.ref va), .val (.ref vb), .val (.int 3)] [(.ref va), (.int 3)]))
  obtain ⟨cl12, Ar12, q12, S12, M12, -, -⟩ := id V_x
  refine own_to (fun _ kont => X0.arraylength hx (by rw [e0]; exact Ar12.1) (State.isArrayOf_alike hZ.alike Ar12.2.1) (g := (mkF m 11 #[.val (.ref va), .val (.ref vb), .val (.int (3 : Int32))] [(.ref va), (.int (3 : Int32))])) rfl rfl (hb hby d10_11) _ kont) ?_
  rw [len_of S12 M12]
  show own_Ends _ _ _ _ (s₁.setTop (mkF m 12 #[.val (.ref va), .val (.ref vb), .val (.int 3)] [(.int 3), (.int 3)]))
  refine own_to (fun _ kont => XS.icmpYes X0.here hx rfl (pc0 := 12) (pc' := 32) rfl (hb hby d10_12) rfl (flt (by decide)).2.1 (by decide) (by decide) kont) ?_
  show own_Ends _ _ _ _ (s₁.setTop (mkF m 32 #[.val (.ref va), .val (.ref vb), .val (.int 3)] []))
  refine own_to (fun _ kont => XS.iconst X0.here hx rfl (hb hby d10_32) kont) ?_
  show own_Ends _ _ _ _ (s₁.setTop (mkF m 33 #[.val (.ref va), .val (.ref vb), .val (.int 3)] [(.int 1)]))
  refine own_leave X0 (v := some (.int (1 : Int32))) (fun h => by rw [Bd.returns] at h; cases h) ?_ (by decide) (by decide) (fun fs hr => retN X0 hx (t := .boolean) Bd.returns (by simp) (hb hby d10_33) hr)
  show Q_leqAA Z va vb ka kb h0 n0 _ s₁.heap _
  rw [e0]
  exact ⟨rfl, N0, rfl⟩
theorem d9_0 : decode jdk_42_method_66_code 0 = .ok (.aload_n 0, 1) := by decide +kernel
theorem d9_1 : decode jdk_42_method_66_code 1 = .ok (.aload_n 1, 1) := by decide +kernel
theorem d9_2 : decode jdk_42_method_66_code 2 = .ok (.if_acmp .ne 5, 3) := by decide +kernel
theorem d9_7 : decode jdk_42_method_66_code 7 = .ok (.aload_n 1, 1) := by decide +kernel
theorem d9_8 : decode jdk_42_method_66_code 8 = .ok (.instanceof 10, 3) := by decide +kernel
theorem d9_11 : decode jdk_42_method_66_code 11 = .ok (.ifCond .eq 43, 3) := by decide +kernel
theorem d9_14 : decode jdk_42_method_66_code 14 = .ok (.aload_n 1, 1) := by decide +kernel
theorem d9_15 : decode jdk_42_method_66_code 15 = .ok (.checkcast 10, 3) := by decide +kernel
theorem d9_18 : decode jdk_42_method_66_code 18 = .ok (.astore_n 2, 1) := by decide +kernel
theorem d9_19 : decode jdk_42_method_66_code 19 = .ok (.getstatic 38, 3) := by decide +kernel
theorem d9_22 : decode jdk_42_method_66_code 22 = .ok (.ifCond .eq 14, 3) := by decide +kernel
theorem d9_25 : decode jdk_42_method_66_code 25 = .ok (.aload_n 0, 1) := by decide +kernel
theorem d9_26 : decode jdk_42_method_66_code 26 = .ok (.getfield 15, 3) := by decide +kernel
theorem d9_29 : decode jdk_42_method_66_code 29 = .ok (.aload_n 2, 1) := by decide +kernel
theorem d9_30 : decode jdk_42_method_66_code 30 = .ok (.getfield 15, 3) := by decide +kernel
theorem d9_33 : decode jdk_42_method_66_code 33 = .ok (.if_icmp .ne 21, 3) := by decide +kernel
theorem d9_36 : decode jdk_42_method_66_code 36 = .ok (.aload_n 0, 1) := by decide +kernel
theorem d9_37 : decode jdk_42_method_66_code 37 = .ok (.getfield 9, 3) := by decide +kernel
theorem d9_40 : decode jdk_42_method_66_code 40 = .ok (.aload_n 2, 1) := by decide +kernel
theorem d9_41 : decode jdk_42_method_66_code 41 = .ok (.getfield 9, 3) := by decide +kernel
theorem d9_44 : decode jdk_42_method_66_code 44 = .ok (.invokestatic 541, 3) := by decide +kernel
theorem d9_47 : decode jdk_42_method_66_code 47 = .ok (.ifCond .eq 7, 3) := by decide +kernel
theorem d9_50 : decode jdk_42_method_66_code 50 = .ok (.iconst 1, 1) := by decide +kernel
theorem d9_51 : decode jdk_42_method_66_code 51 = .ok (.goto 4, 3) := by decide +kernel
theorem d9_55 : decode jdk_42_method_66_code 55 = .ok (.ireturn, 1) := by decide +kernel
theorem pn_9 : plainName "java/lang/String" = true := by first | (simp [plainName, overriddenIn]; done) | decide +kernel
theorem pd_4 : parseMethodDescriptor "([B[B)Z" = some ⟨[(.array .byte), (.array .byte)], some .boolean⟩ := by decide +kernel
theorem ef_seqAA (m : MethodId) (a : Addr) (b : Addr) : entryFrame m #[(.ref a), (.ref b)] 3 = mkF m 0 #[.val (.ref a), .val (.ref b), .unset] [] := by first | (simp [entryFrame, mkF, argsToLocals, Value.category]; done) | rfl | (rcases ref_cases hrf with rfl | ⟨q, rfl⟩ <;> rfl)
def Q_seqAA (Z : State) (a : Addr) (b : Addr) (va : Addr) (vb : Addr) (ka : ClassId) (kb : ClassId) (cs_ : Int32) (h0 : Heap) (n0 : Nat) (v : Option Value) (h : Heap) (L : List Loc) : Prop := v = some (.int (1 : Int32)) ∧ Fr n0 L ∧ h = h0
set_option maxRecDepth 65536 in
set_option maxHeartbeats 40000000 in
theorem seqAA (l : Launch) (Z : State) (a0 : Array Value) (hw : ∀ d ∈ tables_1, d.before a0 Z = true) (ws : List Jvm.Cond) (a : Addr) (b : Addr) (va : Addr) (vb : Addr) (ka : ClassId) (kb : ClassId) (cs_ : Int32) (h0 : Heap) (n0 : Nat) (O0 : Old Z n0 h0) (ne_ab : ¬ a = b) (E_b : Exa Z h0 b "java/lang/String") (F_va : Fld Z h0 a "java/lang/String" "value" "[B" (.ref va)) (F_vb : Fld Z h0 b "java/lang/String" "value" "[B" (.ref vb)) (F_ca : Fld Z h0 a "java/lang/String" "coder" "B" (.int (0 : Int32))) (F_cb : Fld Z h0 b "java/lang/String" "coder" "B" (.int (0 : Int32))) (V_x : Arv Z h0 va ka .byte (3 : Int32) [(.int (109 : Int32)), (.int (115 : Int32)), (.int (105 : Int32))] (.int (0 : Int32))) (V_y : Arv Z h0 vb kb .byte (3 : Int32) [(.int (109 : Int32)), (.int (115 : Int32)), (.int (105 : Int32))] (.int (0 : Int32))) (S_cs : Sta Z Z.heap "java/lang/String" "COMPACT_STRINGS" "Z" (.int cs_)) (hcs : ¬ cs_ = (0 : Int32)) :
    MetFree l oM6 (head1 (Jvm.Cond.code oM6 jdk_42_method_66_code 3 (some .boolean) :: ws) ({ frames := 1, cells := 0, slots := 0, locals := 14 } : Room)) (fun aq_ U => aq_ = #[(.ref a), (.ref b)] ∧ Z.Warmed39 U.vm ∧ U.heap = h0) (fun _ _ _ _ _ => True) (fun _ U o U' => ∃ v L, o = .returned v ∧ Q_seqAA Z a b va vb ka kb cs_ h0 n0 v U'.heap L ∧ FrameEnd U o U' L ({ frames := 1, cells := 0, slots := 0, locals := 14 } : Room).cells ({ frames := 1, cells := 0, slots := 0, locals := 14 } : Room).slots) := by
  refine MetFree.of_bodySF (plainFor_of_name pn_9) hisR ?_
  intro p e s m args below meth c s₁ Bd hml0 hP hK
  obtain ⟨rfl, hZ, hh⟩ := hP
  have hx := Bd.exec
  have hby := Bd.bytes
  have hml : c.maxLocals = 3 := hml0
  have hown : s.vm.findClass "java/lang/String" = some m.cls := findClass_of_methodNamed Bd.named
  have hnm := (name_of_methodNamed Bd.named Bd.method).1
  have X0 : Stand p l e ({ frames := 1, cells := 0, slots := 0, locals := 14 } : Room) s m #[(.ref a), (.ref b)] below meth c s₁ [] 0 0 := Stand.of_body Bd
  have e0 : s₁.heap = h0 := by rw [← hh, Bd.state]; rfl
  have N0 := Fr.nil n0
  show own_Ends p.tables e below (own_P s (Q_seqAA Z a b va vb ka kb cs_ h0 n0) ({ frames := 1, cells := 0, slots := 0, locals := 14 } : Room).cells ({ frames := 1, cells := 0, slots := 0, locals := 14 } : Room).slots) _
  refine own_cast (ef_seqAA m a b) ?_
  show own_Ends _ _ _ _ (s₁.setTop (mkF m 0 #[.val (.ref a), .val (.ref b), .unset] []))
  refine own_to (fun _ kont => XS.aloadN X0.here hx rfl (hb hby d9_0) rfl rfl kont) ?_
  show own_Ends _ _ _ _ (s₁.setTop (mkF m 1 #[.val (.ref a), .val (.ref b), .unset] [(.ref a)]))
  refine own_to (fun _ kont => XS.aloadN X0.here hx rfl (hb hby d9_1) rfl rfl kont) ?_
  show own_Ends _ _ _ _ (s₁.setTop (mkF m 2 #[.val (.ref a), .val (.ref b), .unset] [(.ref b), (.ref a)]))
  refine own_to (fun _ kont => Jvm.RoadKit.acmp (g := (mkF m 2 #[.val (.ref a), .val (.ref b), .unset] [(.ref b), (.ref a)])) X0 hx rfl rfl rfl (pc0 := 2) (pc' := 7) (same := false) rfl (hb hby d9_2) rfl (decide_eq_false fun q => ne_ab (Value.ref.inj q)) (by decide) (by decide) kont) ?_
  show own_Ends _ _ _ _ (s₁.setTop (mkF m 7 #[.val (.ref a), .val (.ref b), .unset] []))
  refine own_to (fun _ kont => XS.aloadN X0.here hx rfl (hb hby d9_7) rfl rfl kont) ?_
  show own_Ends _ _ _ _ (s₁.setTop (mkF m 8 #[.val (.ref a), .val (.ref b), .unset] [(.ref b)]))
  obtain ⟨T1, X1, e1, st1⟩ := instY X0 hx hZ hown (ow59 hw) e0 (Ins.self E_b) (g := (mkF m 8 #[.val (.ref a), .val (.ref b), .unset] [(.ref b)])) rfl rfl (hb hby d9_8)
  refine own_to st1 ?_
  show own_Ends _ _ _ _ (T1.setTop (mkF m 11 #[.val (.ref a), .val (.ref b), .unset] [(.int 1)]))
  refine own_to (fun _ kont => XS.ifNo X1.here hx rfl (hb hby d9_11) rfl ((if0 _ _).trans (feq (by decide)).1) kont) ?_
  show own_Ends _ _ _ _ (T1.setTop (mkF m 14 #[.val (.ref a), .val (.ref b), .unset] []))
  refine own_to (fun _ kont => XS.aloadN X1.here hx rfl (hb hby d9_14) rfl rfl kont) ?_
  show own_Ends _ _ _ _ (T1.setTop (mkF m 15 #[.val (.ref a), .val (.ref b), .unset] [(.ref b)]))
  obtain ⟨T2, X2, e2, st2⟩ := castY X1 hx hZ hown (ow59 hw) e1 (Ins.self E_b) (g := (mkF m 15 #[.val (.ref a), .val (.ref b), .unset] [(.ref b)])) rfl rfl (hb hby d9_15)
  refine own_to st2 ?_
  show own_Ends _ _ _ _ (T2.setTop (mkF m 18 #[.val (.ref a), .val (.ref b), .unset] [(.ref b)]))
  refine own_to (fun _ kont => XS.astoreN X2.here hx rfl (hb hby d9_18) rfl rfl (l' := #[.val (.ref a), .val (.ref b), .val (.ref b)]) rfl kont) ?_
  show own_Ends _ _ _ _ (T2.setTop (mkF m 19 #[.val (.ref a), .val (.ref b), .val (.ref b)] []))
  obtain ⟨T3, X3, e3, st3⟩ := getS2 X2 hx hZ hown (host := "") (Or.inl (ow14 hw)) Via.refl e2 (S_cs.ext O0.2) (g := (mkF m 19 #[.val (.ref a), .val (.ref b), .val (.ref b)] [])) rfl (hb hby d9_19)
  refine own_to st3 ?_
  show own_Ends _ _ _ _ (T3.setTop (mkF m 22 #[.val (.ref a), .val (.ref b), .val (.ref b)] [(.int cs_)]))
  refine own_to (fun _ kont => XS.ifNo X3.here hx rfl (hb hby d9_22) rfl ((if0 _ _).trans (feq hcs).1) kont) ?_
  show own_Ends _ _ _ _ (T3.setTop (mkF m 25 #[.val (.ref a), .val (.ref b), .val (.ref b)] []))
  refine own_to (fun _ kont => XS.aloadN X3.here hx rfl (hb hby d9_25) rfl rfl kont) ?_
  show own_Ends _ _ _ _ (T3.setTop (mkF m 26 #[.val (.ref a), .val (.ref b), .val (.ref b)] [(.ref a)]))
  obtain ⟨T4, X4, e4, st4⟩ := getF X3 hx hZ hown (host := "") (Or.inl (ow26 hw)) Via.refl e3 F_ca (g := (mkF m 26 #[.val (.ref a), .val (.ref b), .val (.ref b)] [(.ref a)])) rfl rfl (hb hby d9_26)
  refine own_to st4 ?_
  show own_Ends _ _ _ _ (T4.setTop (mkF m 29 #[.val (.ref a), .val (.ref b), .val (.ref b)] [(.int 0)]))
  refine own_to (fun _ kont => XS.aloadN X4.here hx rfl (hb hby d9_29) rfl rfl kont) ?_
  show own_Ends _ _ _ _ (T4.setTop (mkF m 30 #[.val (.ref a), .val (.ref b), .val (.ref b)] [(.ref b), (.int 0)]))
  obtain ⟨T5, X5, e5, st5⟩ := getF X4 hx hZ hown (host := "") (Or.inl (ow26 hw)) Via.refl e4 F_cb (g := (mkF m 30 #[.val (.ref a), .val (.ref b), .val (.ref b)] [(.ref b), (.int (0 : Int32))])) rfl rfl (hb hby d9_30)
  refine own_to st5 ?_
  show own_Ends _ _ _ _ (T5.setTop (mkF m 33 #[.val (.ref a), .val (.ref b), .val (.ref b)] [(.int 0), (.int 0)]))
  refine own_to (fun _ kont => XS.icmpNo X5.here hx rfl (hb hby d9_33) rfl (teq (by decide)).2 kont) ?_
  show own_Ends _ _ _ _ (T5.setTop (mkF m 36 #[.val (.ref a), .val (.ref b), .val (.ref b)] []))
  refine own_to (fun _ kont => XS.aloadN X5.here hx rfl (hb hby d9_36) rfl rfl kont) ?_
  show own_Ends _ _ _ _ (T5.setTop (mkF m 37 #[.val (.ref a), .val (.ref b), .val (.ref b)] [(.ref a)]))
  obtain ⟨T6, X6, e6, st6⟩ := getF X5 hx hZ hown (host := "") (Or.inl (ow28 hw)) Via.refl e5 F_va (g := (mkF m 37 #[.val (.ref a), .val (.ref b), .val (.ref b)] [(.ref a)])) rfl rfl (hb hby d9_37)
  refine own_to st6 ?_
  show own_Ends _ _ _ _ (T6.setTop (mkF m 40 #[.val (.ref a), .val (.ref b), .val (.ref b)] [(.ref va)]))
  refine own_to (fun _ kont => XS.aloadN X6.here hx rfl (hb hby d9_40) rfl rfl kont) ?_
  show own_Ends _ _ _ _ (T6.setTop (mkF m 41 #[.val (.ref a), .val (.ref b), .val (.ref b)] [(.ref b), (.ref va)]))
  obtain ⟨T7, X7, e7, st7⟩ := getF X6 hx hZ hown (host := "") (Or.inl (ow28 hw)) Via.refl e6 F_vb (g := (mkF m 41 #[.val (.ref a), .val (.ref b), .val (.ref b)] [(.ref b), (.ref va)])) rfl rfl (hb hby d9_41)
  refine own_to st7 ?_
  show own_Ends _ _ _ _ (T7.setTop (mkF m 44 #[.val (.ref a), .val (.ref b), .val (.ref b)] [(.ref vb), (.ref va)]))
  obtain ⟨_, _, ⟨T8, L8, k8, n8⟩, -, X8, ⟨Lc8, hQ8, l8, y8, z8⟩, st8⟩ := Jvm.LawKit.callS X7 hx (y := oM5) hown (mvT hZ (ow60 hw)) (mvT hZ (ow61 hw)) (mvT hZ (ow62 hw)) (mvT hZ (ow63 hw)) (by decide) (backOf (W := 0) (leqAA l Z a0 hw [] va vb ka kb h0 n0 O0 V_x V_y) hZ (ow63 hw) (ow62 hw) (by decide) (by decide)) (g := (mkF m 44 #[.val (.ref a), .val (.ref b), .val (.ref b)] [(.ref vb), (.ref va)])) rfl (by rw [hml]; rfl) (argsL := [(.ref va), (.ref vb)]) (rest := []) (lenOf pd_4 rfl) rfl (by show 2 * 0 + _ ≤ _; exact Nat.le_of_eq rfl) (hb hby d9_44) (fun _ _ => ⟨rfl, e7, (own_le rfl), (own_le rfl)⟩)
  dsimp only [Pt.U, Pt.locs, Pt.cells, Pt.slots] at X8 l8 y8 z8 st8 hQ8
  subst l8 y8 z8
  obtain ⟨rfl, N8q, E8⟩ := hQ8
  have N8 := Fr.app N0 N8q
  refine own_to st8 ?_
  show own_Ends _ _ _ _ (T8.setTop (mkF m 47 #[.val (.ref a), .val (.ref b), .val (.ref b)] [(.int 1)]))
  refine own_to (fun _ kont => XS.ifNo X8.here hx rfl (hb hby d9_47) rfl ((if0 _ _).trans (feq (by decide)).1) kont) ?_
  show own_Ends _ _ _ _ (T8.setTop (mkF m 50 #[.val (.ref a), .val (.ref b), .val (.ref b)] []))
  refine own_to (fun _ kont => XS.iconst X8.here hx rfl (hb hby d9_50) kont) ?_
  show own_Ends _ _ _ _ (T8.setTop (mkF m 51 #[.val (.ref a), .val (.ref b), .val (.ref b)] [(.int 1)]))
  refine own_to (fun _ kont => XS.goto X8.here hx rfl (pc0 := 51) (pc' := 55) rfl (hb hby d9_51) (by decide) (by decide) kont) ?_
  show own_Ends _ _ _ _ (T8.setTop (mkF m 55 #[.val (.ref a), .val (.ref b), .val (.ref b)] [(.int 1)]))
  refine own_leave X8 (v := some (.int (1 : Int32))) (fun h => by rw [Bd.returns] at h; cases h) ?_ (by decide) (by decide) (fun fs hr => retN X8 hx (t := .boolean) Bd.returns (by simp) (hb hby d9_55) hr)
  show Q_seqAA Z a b va vb ka kb cs_ h0 n0 _ T8.heap _
  rw [E8]
  exact ⟨rfl, N8, rfl⟩
theorem d10_34 : decode jdk_43_method_13_code 34 = .ok (.iconst 0, 1) := by decide +kernel
theorem d10_35 : decode jdk_43_method_13_code 35 = .ok (.ireturn, 1) := by decide +kernel
theorem ef_leqAB (m : MethodId) (va : Addr) (vb : Addr) : entryFrame m #[(.ref va), (.ref vb)] 3 = mkF m 0 #[.val (.ref va), .val (.ref vb), .unset] [] := by first | (simp [entryFrame, mkF, argsToLocals, Value.category]; done) | rfl | (rcases ref_cases hrf with rfl | ⟨q, rfl⟩ <;> rfl)
def Q_leqAB (Z : State) (va : Addr) (vb : Addr) (ka : ClassId) (kb : ClassId) (h0 : Heap) (n0 : Nat) (v : Option Value) (h : Heap) (L : List Loc) : Prop := v = some (.int (0 : Int32)) ∧ Fr n0 L ∧ h = h0
set_option maxRecDepth 65536 in
set_option maxHeartbeats 40000000 in
theorem leqAB (l : Launch) (Z : State) (a0 : Array Value) (hw : ∀ d ∈ tables_1, d.before a0 Z = true) (ws : List Jvm.Cond) (va : Addr) (vb : Addr) (ka : ClassId) (kb : ClassId) (h0 : Heap) (n0 : Nat) (O0 : Old Z n0 h0) (V_x : Arv Z h0 va ka .byte (3 : Int32) [(.int (109 : Int32)), (.int (115 : Int32)), (.int (105 : Int32))] (.int (0 : Int32))) (V_y : Arv Z h0 vb kb .byte (8 : Int32) [(.int (114 : Int32)), (.int (101 : Int32)), (.int (103 : Int32)), (.int (105 : Int32)), (.int (115 : Int32)), (.int (116 : Int32)), (.int (114 : Int32)), (.int (121 : Int32))] (.int (0 : Int32))) :
    MetFree l oM5 (head1 (Jvm.Cond.code oM5 jdk_43_method_13_code 3 (some .boolean) :: ws) ({ frames := 0, cells := 0, slots := 0, locals := 0 } : Room)) (fun aq_ U => aq_ = #[(.ref va), (.ref vb)] ∧ Z.Warmed39 U.vm ∧ U.heap = h0) (fun _ _ _ _ _ => True) (fun _ U o U' => ∃ v L, o = .returned v ∧ Q_leqAB Z va vb ka kb h0 n0 v U'.heap L ∧ FrameEnd U o U' L ({ frames := 0, cells := 0, slots := 0, locals := 0 } : Room).cells ({ frames := 0, cells := 0, slots := 0, locals := 0 } : Room).slots) := by
  refine MetFree.of_bodySF (plainFor_of_name pn_10) hisR ?_
  intro p e s m args below meth c s₁ Bd hml0 hP hK
  obtain ⟨rfl, hZ, hh⟩ := hP
  have hx := Bd.exec
  have hby := Bd.bytes
  have hml : c.maxLocals = 3 := hml0
  have hown : s.vm.findClass "java/lang/StringLatin1" = some m.cls := findClass_of_methodNamed Bd.named
  have hnm := (name_of_methodNamed Bd.named Bd.method).1
  have X0 : Stand p l e ({ frames := 0, cells := 0, slots := 0, locals := 0 } : Room) s m #[(.ref va), (.ref vb)] below meth c s₁ [] 0 0 := Stand.of_body Bd
  have e0 : s₁.heap = h0 := by rw [← hh, Bd.state]; rfl
  have N0 := Fr.nil n0
  show own_Ends p.tables e below (own_P s (Q_leqAB Z va vb ka kb h0 n0) ({ frames := 0, cells := 0, slots := 0, locals := 0 } : Room).cells ({ frames := 0, cells := 0, slots := 0, locals := 0 } : Room).slots) _
  refine own_cast (ef_leqAB m va vb) ?_
  show own_Ends _ _ _ _ (s₁.setTop (mkF m 0 #[.val (.ref va), .val (.ref vb), .unset] []))
  refine own_to (fun _ kont => XS.aloadN X0.here hx rfl (hb hby d10_0) rfl rfl kont) ?_
  show own_Ends _ _ _ _ (s₁.setTop (mkF m 1 #[.val (.ref va), .val (.ref vb), .unset] [(.ref va)]))
  obtain ⟨cl1, Ar1, q1, S1, M1, -, -⟩ := id V_x
  refine own_to (fun _ kont => X0.arraylength hx (by rw [e0]; exact Ar1.1) (State.isArrayOf_alike hZ.alike Ar1.2.1) (g := (mkF m 1 #[.val (.ref va), .val (.ref vb), .unset] [(.ref va)])) rfl rfl (hb hby d10_1) _ kont) ?_
  rw [len_of S1 M1]
  show own_Ends _ _ _ _ (s₁.setTop (mkF m 2 #[.val (.ref va), .val (.ref vb), .unset] [(.int 3)]))
  refine own_to (fun _ kont => XS.aloadN X0.here hx rfl (hb hby d10_2) rfl rfl kont) ?_
  show own_Ends _ _ _ _ (s₁.setTop (mkF m 3 #[.val (.ref va), .val (.ref vb), .unset] [(.ref vb), (.int 3)]))
  obtain ⟨cl2, Ar2, q2, S2, M2, -, -⟩ := id V_y
  refine own_to (fun _ kont => X0.arraylength hx (by rw [e0]; exact Ar2.1) (State.isArrayOf_alike hZ.alike Ar2.2.1) (g := (mkF m 3 #[.val (.ref va), .val (.ref vb), .unset] [(.ref vb), (.int (3 : Int32))])) rfl rfl (hb hby d10_3) _ kont) ?_
  rw [len_of S2 M2]
  show own_Ends _ _ _ _ (s₁.setTop (mkF m 4 #[.val (.ref va), .val (.ref vb), .unset] [(.int 8), (.int 3)]))
  refine own_to (fun _ kont => XS.icmpYes X0.here hx rfl (pc0 := 4) (pc' := 34) rfl (hb hby d10_4) rfl (feq (by decide)).2 (by decide) (by decide) kont) ?_
  show own_Ends _ _ _ _ (s₁.setTop (mkF m 34 #[.val (.ref va), .val (.ref vb), .unset] []))
  refine own_to (fun _ kont => XS.iconst X0.here hx rfl (hb hby d10_34) kont) ?_
  show own_Ends _ _ _ _ (s₁.setTop (mkF m 35 #[.val (.ref va), .val (.ref vb), .unset] [(.int 0)]))
  refine own_leave X0 (v := some (.int (0 : Int32))) (fun h => by rw [Bd.returns] at h; cases h) ?_ (by decide) (by decide) (fun fs hr => retN X0 hx (t := .boolean) Bd.returns (by simp) (hb hby d10_35) hr)
  show Q_leqAB Z va vb ka kb h0 n0 _ s₁.heap _
  rw [e0]
  exact ⟨rfl, N0, rfl⟩
theorem d9_54 : decode jdk_42_method_66_code 54 = .ok (.iconst 0, 1) := by decide +kernel
theorem ef_seqAB (m : MethodId) (a : Addr) (b : Addr) : entryFrame m #[(.ref a), (.ref b)] 3 = mkF m 0 #[.val (.ref a), .val (.ref b), .unset] [] := by first | (simp [entryFrame, mkF, argsToLocals, Value.category]; done) | rfl | (rcases ref_cases hrf with rfl | ⟨q, rfl⟩ <;> rfl)
def Q_seqAB (Z : State) (a : Addr) (b : Addr) (va : Addr) (vb : Addr) (ka : ClassId) (kb : ClassId) (cs_ : Int32) (h0 : Heap) (n0 : Nat) (v : Option Value) (h : Heap) (L : List Loc) : Prop := v = some (.int (0 : Int32)) ∧ Fr n0 L ∧ h = h0
set_option maxRecDepth 65536 in
set_option maxHeartbeats 40000000 in
theorem seqAB (l : Launch) (Z : State) (a0 : Array Value) (hw : ∀ d ∈ tables_1, d.before a0 Z = true) (ws : List Jvm.Cond) (a : Addr) (b : Addr) (va : Addr) (vb : Addr) (ka : ClassId) (kb : ClassId) (cs_ : Int32) (h0 : Heap) (n0 : Nat) (O0 : Old Z n0 h0) (ne_ab : ¬ a = b) (E_b : Exa Z h0 b "java/lang/String") (F_va : Fld Z h0 a "java/lang/String" "value" "[B" (.ref va)) (F_vb : Fld Z h0 b "java/lang/String" "value" "[B" (.ref vb)) (F_ca : Fld Z h0 a "java/lang/String" "coder" "B" (.int (0 : Int32))) (F_cb : Fld Z h0 b "java/lang/String" "coder" "B" (.int (0 : Int32))) (V_x : Arv Z h0 va ka .byte (3 : Int32) [(.int (109 : Int32)), (.int (115 : Int32)), (.int (105 : Int32))] (.int (0 : Int32))) (V_y : Arv Z h0 vb kb .byte (8 : Int32) [(.int (114 : Int32)), (.int (101 : Int32)), (.int (103 : Int32)), (.int (105 : Int32)), (.int (115 : Int32)), (.int (116 : Int32)), (.int (114 : Int32)), (.int (121 : Int32))] (.int (0 : Int32))) (S_cs : Sta Z Z.heap "java/lang/String" "COMPACT_STRINGS" "Z" (.int cs_)) (hcs : ¬ cs_ = (0 : Int32)) :
    MetFree l oM6 (head1 (Jvm.Cond.code oM6 jdk_42_method_66_code 3 (some .boolean) :: ws) ({ frames := 1, cells := 0, slots := 0, locals := 14 } : Room)) (fun aq_ U => aq_ = #[(.ref a), (.ref b)] ∧ Z.Warmed39 U.vm ∧ U.heap = h0) (fun _ _ _ _ _ => True) (fun _ U o U' => ∃ v L, o = .returned v ∧ Q_seqAB Z a b va vb ka kb cs_ h0 n0 v U'.heap L ∧ FrameEnd U o U' L ({ frames := 1, cells := 0, slots := 0, locals := 14 } : Room).cells ({ frames := 1, cells := 0, slots := 0, locals := 14 } : Room).slots) := by
  refine MetFree.of_bodySF (plainFor_of_name pn_9) hisR ?_
  intro p e s m args below meth c s₁ Bd hml0 hP hK
  obtain ⟨rfl, hZ, hh⟩ := hP
  have hx := Bd.exec
  have hby := Bd.bytes
  have hml : c.maxLocals = 3 := hml0
  have hown : s.vm.findClass "java/lang/String" = some m.cls := findClass_of_methodNamed Bd.named
  have hnm := (name_of_methodNamed Bd.named Bd.method).1
  have X0 : Stand p l e ({ frames := 1, cells := 0, slots := 0, locals := 14 } : Room) s m #[(.ref a), (.ref b)] below meth c s₁ [] 0 0 := Stand.of_body Bd
  have e0 : s₁.heap = h0 := by rw [← hh, Bd.state]; rfl
  have N0 := Fr.nil n0
  show own_Ends p.tables e below (own_P s (Q_seqAB Z a b va vb ka kb cs_ h0 n0) ({ frames := 1, cells := 0, slots := 0, locals := 14 } : Room).cells ({ frames := 1, cells := 0, slots := 0, locals := 14 } : Room).slots) _
  refine own_cast (ef_seqAB m a b) ?_
  show own_Ends _ _ _ _ (s₁.setTop (mkF m 0 #[.val (.ref a), .val (.ref b), .unset] []))
  refine own_to (fun _ kont => XS.aloadN X0.here hx rfl (hb hby d9_0) rfl rfl kont) ?_
  show own_Ends _ _ _ _ (s₁.setTop (mkF m 1 #[.val (.ref a), .val (.ref b), .unset] [(.ref a)]))
  refine own_to (fun _ kont => XS.aloadN X0.here hx rfl (hb hby d9_1) rfl rfl kont) ?_
  show own_Ends _ _ _ _ (s₁.setTop (mkF m 2 #[.val (.ref a), .val (.ref b), .unset] [(.ref b), (.ref a)]))
  refine own_to (fun _ kont => Jvm.RoadKit.acmp (g := (mkF m 2 #[.val (.ref a), .val (.ref b), .unset] [(.ref b), (.ref a)])) X0 hx rfl rfl rfl (pc0 := 2) (pc' := 7) (same := false) rfl (hb hby d9_2) rfl (decide_eq_false fun q => ne_ab (Value.ref.inj q)) (by decide) (by decide) kont) ?_
  show own_Ends _ _ _ _ (s₁.setTop (mkF m 7 #[.val (.ref a), .val (.ref b), .unset] []))
  refine own_to (fun _ kont => XS.aloadN X0.here hx rfl (hb hby d9_7) rfl rfl kont) ?_
  show own_Ends _ _ _ _ (s₁.setTop (mkF m 8 #[.val (.ref a), .val (.ref b), .unset] [(.ref b)]))
  obtain ⟨T1, X1, e1, st1⟩ := instY X0 hx hZ hown (ow59 hw) e0 (Ins.self E_b) (g := (mkF m 8 #[.val (.ref a), .val (.ref b), .unset] [(.ref b)])) rfl rfl (hb hby d9_8)
  refine own_to st1 ?_
  show own_Ends _ _ _ _ (T1.setTop (mkF m 11 #[.val (.ref a), .val (.ref b), .unset] [(.int 1)]))
  refine own_to (fun _ kont => XS.ifNo X1.here hx rfl (hb hby d9_11) rfl ((if0 _ _).trans (feq (by decide)).1) kont) ?_
  show own_Ends _ _ _ _ (T1.setTop (mkF m 14 #[.val (.ref a), .val (.ref b), .unset] []))
  refine own_to (fun _ kont => XS.aloadN X1.here hx rfl (hb hby d9_14) rfl rfl kont) ?_
  show own_Ends _ _ _ _ (T1.setTop (mkF m 15 #[.val (.ref a), .val (.ref b), .unset] [(.ref b)]))
  obtain ⟨T2, X2, e2, st2⟩ := castY X1 hx hZ hown (ow59 hw) e1 (Ins.self E_b) (g := (mkF m 15 #[.val (.ref a), .val (.ref b), .unset] [(.ref b)])) rfl rfl (hb hby d9_15)
  refine own_to st2 ?_
  show own_Ends _ _ _ _ (T2.setTop (mkF m 18 #[.val (.ref a), .val (.ref b), .unset] [(.ref b)]))
  refine own_to (fun _ kont => XS.astoreN X2.here hx rfl (hb hby d9_18) rfl rfl (l' := #[.val (.ref a), .val (.ref b), .val (.ref b)]) rfl kont) ?_
  show own_Ends _ _ _ _ (T2.setTop (mkF m 19 #[.val (.ref a), .val (.ref b), .val (.ref b)] []))
  obtain ⟨T3, X3, e3, st3⟩ := getS2 X2 hx hZ hown (host := "") (Or.inl (ow14 hw)) Via.refl e2 (S_cs.ext O0.2) (g := (mkF m 19 #[.val (.ref a), .val (.ref b), .val (.ref b)] [])) rfl (hb hby d9_19)
  refine own_to st3 ?_
  show own_Ends _ _ _ _ (T3.setTop (mkF m 22 #[.val (.ref a), .val (.ref b), .val (.ref b)] [(.int cs_)]))
  refine own_to (fun _ kont => XS.ifNo X3.here hx rfl (hb hby d9_22) rfl ((if0 _ _).trans (feq hcs).1) kont) ?_
  show own_Ends _ _ _ _ (T3.setTop (mkF m 25 #[.val (.ref a), .val (.ref b), .val (.ref b)] []))
  refine own_to (fun _ kont => XS.aloadN X3.here hx rfl (hb hby d9_25) rfl rfl kont) ?_
  show own_Ends _ _ _ _ (T3.setTop (mkF m 26 #[.val (.ref a), .val (.ref b), .val (.ref b)] [(.ref a)]))
  obtain ⟨T4, X4, e4, st4⟩ := getF X3 hx hZ hown (host := "") (Or.inl (ow26 hw)) Via.refl e3 F_ca (g := (mkF m 26 #[.val (.ref a), .val (.ref b), .val (.ref b)] [(.ref a)])) rfl rfl (hb hby d9_26)
  refine own_to st4 ?_
  show own_Ends _ _ _ _ (T4.setTop (mkF m 29 #[.val (.ref a), .val (.ref b), .val (.ref b)] [(.int 0)]))
  refine own_to (fun _ kont => XS.aloadN X4.here hx rfl (hb hby d9_29) rfl rfl kont) ?_
  show own_Ends _ _ _ _ (T4.setTop (mkF m 30 #[.val (.ref a), .val (.ref b), .val (.ref b)] [(.ref b), (.int 0)]))
  obtain ⟨T5, X5, e5, st5⟩ := getF X4 hx hZ hown (host := "") (Or.inl (ow26 hw)) Via.refl e4 F_cb (g := (mkF m 30 #[.val (.ref a), .val (.ref b), .val (.ref b)] [(.ref b), (.int (0 : Int32))])) rfl rfl (hb hby d9_30)
  refine own_to st5 ?_
  show own_Ends _ _ _ _ (T5.setTop (mkF m 33 #[.val (.ref a), .val (.ref b), .val (.ref b)] [(.int 0), (.int 0)]))
  refine own_to (fun _ kont => XS.icmpNo X5.here hx rfl (hb hby d9_33) rfl (teq (by decide)).2 kont) ?_
  show own_Ends _ _ _ _ (T5.setTop (mkF m 36 #[.val (.ref a), .val (.ref b), .val (.ref b)] []))
  refine own_to (fun _ kont => XS.aloadN X5.here hx rfl (hb hby d9_36) rfl rfl kont) ?_
  show own_Ends _ _ _ _ (T5.setTop (mkF m 37 #[.val (.ref a), .val (.ref b), .val (.ref b)] [(.ref a)]))
  obtain ⟨T6, X6, e6, st6⟩ := getF X5 hx hZ hown (host := "") (Or.inl (ow28 hw)) Via.refl e5 F_va (g := (mkF m 37 #[.val (.ref a), .val (.ref b), .val (.ref b)] [(.ref a)])) rfl rfl (hb hby d9_37)
  refine own_to st6 ?_
  show own_Ends _ _ _ _ (T6.setTop (mkF m 40 #[.val (.ref a), .val (.ref b), .val (.ref b)] [(.ref va)]))
  refine own_to (fun _ kont => XS.aloadN X6.here hx rfl (hb hby d9_40) rfl rfl kont) ?_
  show own_Ends _ _ _ _ (T6.setTop (mkF m 41 #[.val (.ref a), .val (.ref b), .val (.ref b)] [(.ref b), (.ref va)]))
  obtain ⟨T7, X7, e7, st7⟩ := getF X6 hx hZ hown (host := "") (Or.inl (ow28 hw)) Via.refl e6 F_vb (g := (mkF m 41 #[.val (.ref a), .val (.ref b), .val (.ref b)] [(.ref b), (.ref va)])) rfl rfl (hb hby d9_41)
  refine own_to st7 ?_
  show own_Ends _ _ _ _ (T7.setTop (mkF m 44 #[.val (.ref a), .val (.ref b), .val (.ref b)] [(.ref vb), (.ref va)]))
  obtain ⟨_, _, ⟨T8, L8, k8, n8⟩, -, X8, ⟨Lc8, hQ8, l8, y8, z8⟩, st8⟩ := Jvm.LawKit.callS X7 hx (y := oM5) hown (mvT hZ (ow60 hw)) (mvT hZ (ow61 hw)) (mvT hZ (ow62 hw)) (mvT hZ (ow63 hw)) (by decide) (backOf (W := 0) (leqAB l Z a0 hw [] va vb ka kb h0 n0 O0 V_x V_y) hZ (ow63 hw) (ow62 hw) (by decide) (by decide)) (g := (mkF m 44 #[.val (.ref a), .val (.ref b), .val (.ref b)] [(.ref vb), (.ref va)])) rfl (by rw [hml]; rfl) (argsL := [(.ref va), (.ref vb)]) (rest := []) (lenOf pd_4 rfl) rfl (by show 2 * 0 + _ ≤ _; exact Nat.le_of_eq rfl) (hb hby d9_44) (fun _ _ => ⟨rfl, e7, (own_le rfl), (own_le rfl)⟩)
  dsimp only [Pt.U, Pt.locs, Pt.cells, Pt.slots] at X8 l8 y8 z8 st8 hQ8
  subst l8 y8 z8
  obtain ⟨rfl, N8q, E8⟩ := hQ8
  have N8 := Fr.app N0 N8q
  refine own_to st8 ?_
  show own_Ends _ _ _ _ (T8.setTop (mkF m 47 #[.val (.ref a), .val (.ref b), .val (.ref b)] [(.int 0)]))
  refine own_to (fun _ kont => XS.ifYes X8.here hx rfl (pc0 := 47) (pc' := 54) rfl (hb hby d9_47) rfl ((if0 _ _).trans (teq (by decide)).1) (by decide) (by decide) kont) ?_
  show own_Ends _ _ _ _ (T8.setTop (mkF m 54 #[.val (.ref a), .val (.ref b), .val (.ref b)] []))
  refine own_to (fun _ kont => XS.iconst X8.here hx rfl (hb hby d9_54) kont) ?_
  show own_Ends _ _ _ _ (T8.setTop (mkF m 55 #[.val (.ref a), .val (.ref b), .val (.ref b)] [(.int 0)]))
  refine own_leave X8 (v := some (.int (0 : Int32))) (fun h => by rw [Bd.returns] at h; cases h) ?_ (by decide) (by decide) (fun fs hr => retN X8 hx (t := .boolean) Bd.returns (by simp) (hb hby d9_55) hr)
  show Q_seqAB Z a b va vb ka kb cs_ h0 n0 _ T8.heap _
  rw [E8]
  exact ⟨rfl, N8, rfl⟩
theorem ef_leqBB (m : MethodId) (va : Addr) (vb : Addr) : entryFrame m #[(.ref va), (.ref vb)] 3 = mkF m 0 #[.val (.ref va), .val (.ref vb), .unset] [] := by first | (simp [entryFrame, mkF, argsToLocals, Value.category]; done) | rfl | (rcases ref_cases hrf with rfl | ⟨q, rfl⟩ <;> rfl)
def Q_leqBB (Z : State) (va : Addr) (vb : Addr) (ka : ClassId) (kb : ClassId) (h0 : Heap) (n0 : Nat) (v : Option Value) (h : Heap) (L : List Loc) : Prop := v = some (.int (1 : Int32)) ∧ Fr n0 L ∧ h = h0
set_option maxRecDepth 65536 in
set_option maxHeartbeats 40000000 in
theorem leqBB (l : Launch) (Z : State) (a0 : Array Value) (hw : ∀ d ∈ tables_1, d.before a0 Z = true) (ws : List Jvm.Cond) (va : Addr) (vb : Addr) (ka : ClassId) (kb : ClassId) (h0 : Heap) (n0 : Nat) (O0 : Old Z n0 h0) (V_x : Arv Z h0 va ka .byte (8 : Int32) [(.int (114 : Int32)), (.int (101 : Int32)), (.int (103 : Int32)), (.int (105 : Int32)), (.int (115 : Int32)), (.int (116 : Int32)), (.int (114 : Int32)), (.int (121 : Int32))] (.int (0 : Int32))) (V_y : Arv Z h0 vb kb .byte (8 : Int32) [(.int (114 : Int32)), (.int (101 : Int32)), (.int (103 : Int32)), (.int (105 : Int32)), (.int (115 : Int32)), (.int (116 : Int32)), (.int (114 : Int32)), (.int (121 : Int32))] (.int (0 : Int32))) :
    MetFree l oM5 (head1 (Jvm.Cond.code oM5 jdk_43_method_13_code 3 (some .boolean) :: ws) ({ frames := 0, cells := 0, slots := 0, locals := 0 } : Room)) (fun aq_ U => aq_ = #[(.ref va), (.ref vb)] ∧ Z.Warmed39 U.vm ∧ U.heap = h0) (fun _ _ _ _ _ => True) (fun _ U o U' => ∃ v L, o = .returned v ∧ Q_leqBB Z va vb ka kb h0 n0 v U'.heap L ∧ FrameEnd U o U' L ({ frames := 0, cells := 0, slots := 0, locals := 0 } : Room).cells ({ frames := 0, cells := 0, slots := 0, locals := 0 } : Room).slots) := by
  refine MetFree.of_bodySF (plainFor_of_name pn_10) hisR ?_
  intro p e s m args below meth c s₁ Bd hml0 hP hK
  obtain ⟨rfl, hZ, hh⟩ := hP
  have hx := Bd.exec
  have hby := Bd.bytes
  have hml : c.maxLocals = 3 := hml0
  have hown : s.vm.findClass "java/lang/StringLatin1" = some m.cls := findClass_of_methodNamed Bd.named
  have hnm := (name_of_methodNamed Bd.named Bd.method).1
  have X0 : Stand p l e ({ frames := 0, cells := 0, slots := 0, locals := 0 } : Room) s m #[(.ref va), (.ref vb)] below meth c s₁ [] 0 0 := Stand.of_body Bd
  have e0 : s₁.heap = h0 := by rw [← hh, Bd.state]; rfl
  have N0 := Fr.nil n0
  show own_Ends p.tables e below (own_P s (Q_leqBB Z va vb ka kb h0 n0) ({ frames := 0, cells := 0, slots := 0, locals := 0 } : Room).cells ({ frames := 0, cells := 0, slots := 0, locals := 0 } : Room).slots) _
  refine own_cast (ef_leqBB m va vb) ?_
  show own_Ends _ _ _ _ (s₁.setTop (mkF m 0 #[.val (.ref va), .val (.ref vb), .unset] []))
  refine own_to (fun _ kont => XS.aloadN X0.here hx rfl (hb hby d10_0) rfl rfl kont) ?_
  show own_Ends _ _ _ _ (s₁.setTop (mkF m 1 #[.val (.ref va), .val (.ref vb), .unset] [(.ref va)]))
  obtain ⟨cl1, Ar1, q1, S1, M1, -, -⟩ := id V_x
  refine own_to (fun _ kont => X0.arraylength hx (by rw [e0]; exact Ar1.1) (State.isArrayOf_alike hZ.alike Ar1.2.1) (g := (mkF m 1 #[.val (.ref va), .val (.ref vb), .unset] [(.ref va)])) rfl rfl (hb hby d10_1) _ kont) ?_
  rw [len_of S1 M1]
  show own_Ends _ _ _ _ (s₁.setTop (mkF m 2 #[.val (.ref va), .val (.ref vb), .unset] [(.int 8)]))
  refine own_to (fun _ kont => XS.aloadN X0.here hx rfl (hb hby d10_2) rfl rfl kont) ?_
  show own_Ends _ _ _ _ (s₁.setTop (mkF m 3 #[.val (.ref va), .val (.ref vb), .unset] [(.ref vb), (.int 8)]))
  obtain ⟨cl2, Ar2, q2, S2, M2, -, -⟩ := id V_y
  refine own_to (fun _ kont => X0.arraylength hx (by rw [e0]; exact Ar2.1) (State.isArrayOf_alike hZ.alike Ar2.2.1) (g := (mkF m 3 #[.val (.ref va), .val (.ref vb), .unset] [(.ref vb), (.int (8 : Int32))])) rfl rfl (hb hby d10_3) _ kont) ?_
  rw [len_of S2 M2]
  show own_Ends _ _ _ _ (s₁.setTop (mkF m 4 #[.val (.ref va), .val (.ref vb), .unset] [(.int 8), (.int 8)]))
  refine own_to (fun _ kont => XS.icmpNo X0.here hx rfl (hb hby d10_4) rfl (teq (by decide)).2 kont) ?_
  show own_Ends _ _ _ _ (s₁.setTop (mkF m 7 #[.val (.ref va), .val (.ref vb), .unset] []))
  refine own_to (fun _ kont => XS.iconst X0.here hx rfl (hb hby d10_7) kont) ?_
  show own_Ends _ _ _ _ (s₁.setTop (mkF m 8 #[.val (.ref va), .val (.ref vb), .unset] [(.int 0)]))
  refine own_to (fun _ kont => XS.istoreN X0.here hx rfl (hb hby d10_8) rfl (l' := #[.val (.ref va), .val (.ref vb), .val (.int (0 : Int32))]) rfl kont) ?_
  show own_Ends _ _ _ _ (s₁.setTop (mkF m 9 #[.val (.ref va), .val (.ref vb), .val (.int 0)] []))
  refine own_to (fun _ kont => XS.iloadN X0.here hx rfl (hb hby d10_9) rfl kont) ?_
  show own_Ends _ _ _ _ (s₁.setTop (mkF m 10 #[.val (.ref va), .val (.ref vb), .val (.int 0)] [(.int 0)]))
  refine own_to (fun _ kont => XS.aloadN X0.here hx rfl (hb hby d10_10) rfl rfl kont) ?_
  show own_Ends _ _ _ _ (s₁.setTop (mkF m 11 #[.val (.ref va), .val (.ref vb), .val (.int 0)] [(.ref va), (.int 0)]))
  obtain ⟨cl3, Ar3, q3, S3, M3, -, -⟩ := id V_x
  refine own_to (fun _ kont => X0.arraylength hx (by rw [e0]; exact Ar3.1) (State.isArrayOf_alike hZ.alike Ar3.2.1) (g := (mkF m 11 #[.val (.ref va), .val (.ref vb), .val (.int (0 : Int32))] [(.ref va), (.int (0 : Int32))])) rfl rfl (hb hby d10_11) _ kont) ?_
  rw [len_of S3 M3]
  show own_Ends _ _ _ _ (s₁.setTop (mkF m 12 #[.val (.ref va), .val (.ref vb), .val (.int 0)] [(.int 8), (.int 0)]))
  refine own_to (fun _ kont => XS.icmpNo X0.here hx rfl (hb hby d10_12) rfl (tlt (by decide)).2.1 kont) ?_
  show own_Ends _ _ _ _ (s₁.setTop (mkF m 15 #[.val (.ref va), .val (.ref vb), .val (.int 0)] []))
  refine own_to (fun _ kont => XS.aloadN X0.here hx rfl (hb hby d10_15) rfl rfl kont) ?_
  show own_Ends _ _ _ _ (s₁.setTop (mkF m 16 #[.val (.ref va), .val (.ref vb), .val (.int 0)] [(.ref va)]))
  refine own_to (fun _ kont => XS.iloadN X0.here hx rfl (hb hby d10_16) rfl kont) ?_
  show own_Ends _ _ _ _ (s₁.setTop (mkF m 17 #[.val (.ref va), .val (.ref vb), .val (.int 0)] [(.int 0), (.ref va)]))
  obtain ⟨cl4, Ar4, q4, S4, M4, H4, G4⟩ := id V_x
  have hin4 : ¬ ((0 : Int32) < 0 ∨ cl4.slots.size ≤ ((0 : Int32)).toNatClampNeg) := inb_of S4 ⟨by decide, by decide⟩
  have hat4 : cl4.slots[((0 : Int32)).toNatClampNeg]? = some (.int (114 : Int32)) := Has.at H4 hin4 rfl
  refine own_to (fun _ kont => X0.baloadBytes hx (j := (0 : Int32)) (v := (.int (114 : Int32))) (by rw [e0]; exact Ar4.1) (State.isArrayOf_alike hZ.alike Ar4.2.1) Ar4.2.2 hin4 hat4 (g := (mkF m 17 #[.val (.ref va), .val (.ref vb), .val (.int (0 : Int32))] [(.int (0 : Int32)), (.ref va)])) rfl rfl (hb hby d10_17) _ kont) ?_
  show own_Ends _ _ _ _ (s₁.setTop (mkF m 18 #[.val (.ref va), .val (.ref vb), .val (.int 0)] [(.int 114)]))
  refine own_to (fun _ kont => XS.aloadN X0.here hx rfl (hb hby d10_18) rfl rfl kont) ?_
  show own_Ends _ _ _ _ (s₁.setTop (mkF m 19 #[.val (.ref va), .val (.ref vb), .val (.int 0)] [(.ref vb), (.int 114)]))
  refine own_to (fun _ kont => XS.iloadN X0.here hx rfl (hb hby d10_19) rfl kont) ?_
  show own_Ends _ _ _ _ (s₁.setTop (mkF m 20 #[.val (.ref va), .val (.ref vb), .val (.int 0)] [(.int 0), (.ref vb), (.int 114)]))
  obtain ⟨cl5, Ar5, q5, S5, M5, H5, G5⟩ := id V_y
  have hin5 : ¬ ((0 : Int32) < 0 ∨ cl5.slots.size ≤ ((0 : Int32)).toNatClampNeg) := inb_of S5 ⟨by decide, by decide⟩
  have hat5 : cl5.slots[((0 : Int32)).toNatClampNeg]? = some (.int (114 : Int32)) := Has.at H5 hin5 rfl
  refine own_to (fun _ kont => X0.baloadBytes hx (j := (0 : Int32)) (v := (.int (114 : Int32))) (by rw [e0]; exact Ar5.1) (State.isArrayOf_alike hZ.alike Ar5.2.1) Ar5.2.2 hin5 hat5 (g := (mkF m 20 #[.val (.ref va), .val (.ref vb), .val (.int (0 : Int32))] [(.int (0 : Int32)), (.ref vb), (.int (114 : Int32))])) rfl rfl (hb hby d10_20) _ kont) ?_
  show own_Ends _ _ _ _ (s₁.setTop (mkF m 21 #[.val (.ref va), .val (.ref vb), .val (.int 0)] [(.int 114), (.int 114)]))
  refine own_to (fun _ kont => XS.icmpYes X0.here hx rfl (pc0 := 21) (pc' := 26) rfl (hb hby d10_21) rfl (teq (by decide)).1 (by decide) (by decide) kont) ?_
  show own_Ends _ _ _ _ (s₁.setTop (mkF m 26 #[.val (.ref va), .val (.ref vb), .val (.int 0)] []))
  refine own_to (fun _ kont => XS.iinc X0.here hx rfl (hb hby d10_26) rfl (l' := #[.val (.ref va), .val (.ref vb), .val (.int (1 : Int32))]) rfl kont) ?_
  show own_Ends _ _ _ _ (s₁.setTop (mkF m 29 #[.val (.ref va), .val (.ref vb), .val (.int 1)] []))
  refine own_to (fun _ kont => XS.goto X0.here hx rfl (pc0 := 29) (pc' := 9) rfl (hb hby d10_29) (by decide) (by decide) kont) ?_
  show own_Ends _ _ _ _ (s₁.setTop (mkF m 9 #[.val (.ref va), .val (.ref vb), .val (.int 1)] []))
  refine own_to (fun _ kont => XS.iloadN X0.here hx rfl (hb hby d10_9) rfl kont) ?_
  show own_Ends _ _ _ _ (s₁.setTop (mkF m 10 #[.val (.ref va), .val (.ref vb), .val (.int 1)] [(.int 1)]))
  refine own_to (fun _ kont => XS.aloadN X0.here hx rfl (hb hby d10_10) rfl rfl kont) ?_
  show own_Ends _ _ _ _ (s₁.setTop (mkF m 11 #[.val (.ref va), .val (.ref vb), .val (.int 1)] [(.ref va), (.int 1)]))
  obtain ⟨cl6, Ar6, q6, S6, M6, -, -⟩ := id V_x
  refine own_to (fun _ kont => X0.arraylength hx (by rw [e0]; exact Ar6.1) (State.isArrayOf_alike hZ.alike Ar6.2.1) (g := (mkF m 11 #[.val (.ref va), .val (.ref vb), .val (.int (1 : Int32))] [(.ref va), (.int (1 : Int32))])) rfl rfl (hb hby d10_11) _ kont) ?_
  rw [len_of S6 M6]
  show own_Ends _ _ _ _ (s₁.setTop (mkF m 12 #[.val (.ref va), .val (.ref vb), .val (.int 1)] [(.int 8), (.int 1)]))
  refine own_to (fun _ kont => XS.icmpNo X0.here hx rfl (hb hby d10_12) rfl (tlt (by decide)).2.1 kont) ?_
  show own_Ends _ _ _ _ (s₁.setTop (mkF m 15 #[.val (.ref va), .val (.ref vb), .val (.int 1)] []))
  refine own_to (fun _ kont => XS.aloadN X0.here hx rfl (hb hby d10_15) rfl rfl kont) ?_
  show own_Ends _ _ _ _ (s₁.setTop (mkF m 16 #[.val (.ref va), .val (.ref vb), .val (.int 1)] [(.ref va)]))
  refine own_to (fun _ kont => XS.iloadN X0.here hx rfl (hb hby d10_16) rfl kont) ?_
  show own_Ends _ _ _ _ (s₁.setTop (mkF m 17 #[.val (.ref va), .val (.ref vb), .val (.int 1)] [(.int 1), (.ref va)]))
  obtain ⟨cl7, Ar7, q7, S7, M7, H7, G7⟩ := id V_x
  have hin7 : ¬ ((1 : Int32) < 0 ∨ cl7.slots.size ≤ ((1 : Int32)).toNatClampNeg) := inb_of S7 ⟨by decide, by decide⟩
  have hat7 : cl7.slots[((1 : Int32)).toNatClampNeg]? = some (.int (101 : Int32)) := Has.at H7 hin7 rfl
  refine own_to (fun _ kont => X0.baloadBytes hx (j := (1 : Int32)) (v := (.int (101 : Int32))) (by rw [e0]; exact Ar7.1) (State.isArrayOf_alike hZ.alike Ar7.2.1) Ar7.2.2 hin7 hat7 (g := (mkF m 17 #[.val (.ref va), .val (.ref vb), .val (.int (1 : Int32))] [(.int (1 : Int32)), (.ref va)])) rfl rfl (hb hby d10_17) _ kont) ?_
  show own_Ends _ _ _ _ (s₁.setTop (mkF m 18 #[.val (.ref va), .val (.ref vb), .val (.int 1)] [(.int 101)]))
  refine own_to (fun _ kont => XS.aloadN X0.here hx rfl (hb hby d10_18) rfl rfl kont) ?_
  show own_Ends _ _ _ _ (s₁.setTop (mkF m 19 #[.val (.ref va), .val (.ref vb), .val (.int 1)] [(.ref vb), (.int 101)]))
  refine own_to (fun _ kont => XS.iloadN X0.here hx rfl (hb hby d10_19) rfl kont) ?_
  show own_Ends _ _ _ _ (s₁.setTop (mkF m 20 #[.val (.ref va), .val (.ref vb), .val (.int 1)] [(.int 1), (.ref vb), (.int 101)]))
  obtain ⟨cl8, Ar8, q8, S8, M8, H8, G8⟩ := id V_y
  have hin8 : ¬ ((1 : Int32) < 0 ∨ cl8.slots.size ≤ ((1 : Int32)).toNatClampNeg) := inb_of S8 ⟨by decide, by decide⟩
  have hat8 : cl8.slots[((1 : Int32)).toNatClampNeg]? = some (.int (101 : Int32)) := Has.at H8 hin8 rfl
  refine own_to (fun _ kont => X0.baloadBytes hx (j := (1 : Int32)) (v := (.int (101 : Int32))) (by rw [e0]; exact Ar8.1) (State.isArrayOf_alike hZ.alike Ar8.2.1) Ar8.2.2 hin8 hat8 (g := (mkF m 20 #[.val (.ref va), .val (.ref vb), .val (.int (1 : Int32))] [(.int (1 : Int32)), (.ref vb), (.int (101 : Int32))])) rfl rfl (hb hby d10_20) _ kont) ?_
  show own_Ends _ _ _ _ (s₁.setTop (mkF m 21 #[.val (.ref va), .val (.ref vb), .val (.int 1)] [(.int 101), (.int 101)]))
  refine own_to (fun _ kont => XS.icmpYes X0.here hx rfl (pc0 := 21) (pc' := 26) rfl (hb hby d10_21) rfl (teq (by decide)).1 (by decide) (by decide) kont) ?_
  show own_Ends _ _ _ _ (s₁.setTop (mkF m 26 #[.val (.ref va), .val (.ref vb), .val (.int 1)] []))
  refine own_to (fun _ kont => XS.iinc X0.here hx rfl (hb hby d10_26) rfl (l' := #[.val (.ref va), .val (.ref vb), .val (.int (2 : Int32))]) rfl kont) ?_
  show own_Ends _ _ _ _ (s₁.setTop (mkF m 29 #[.val (.ref va), .val (.ref vb), .val (.int 2)] []))
  refine own_to (fun _ kont => XS.goto X0.here hx rfl (pc0 := 29) (pc' := 9) rfl (hb hby d10_29) (by decide) (by decide) kont) ?_
  show own_Ends _ _ _ _ (s₁.setTop (mkF m 9 #[.val (.ref va), .val (.ref vb), .val (.int 2)] []))
  refine own_to (fun _ kont => XS.iloadN X0.here hx rfl (hb hby d10_9) rfl kont) ?_
  show own_Ends _ _ _ _ (s₁.setTop (mkF m 10 #[.val (.ref va), .val (.ref vb), .val (.int 2)] [(.int 2)]))
  refine own_to (fun _ kont => XS.aloadN X0.here hx rfl (hb hby d10_10) rfl rfl kont) ?_
  show own_Ends _ _ _ _ (s₁.setTop (mkF m 11 #[.val (.ref va), .val (.ref vb), .val (.int 2)] [(.ref va), (.int 2)]))
  obtain ⟨cl9, Ar9, q9, S9, M9, -, -⟩ := id V_x
  refine own_to (fun _ kont => X0.arraylength hx (by rw [e0]; exact Ar9.1) (State.isArrayOf_alike hZ.alike Ar9.2.1) (g := (mkF m 11 #[.val (.ref va), .val (.ref vb), .val (.int (2 : Int32))] [(.ref va), (.int (2 : Int32))])) rfl rfl (hb hby d10_11) _ kont) ?_
  rw [len_of S9 M9]
  show own_Ends _ _ _ _ (s₁.setTop (mkF m 12 #[.val (.ref va), .val (.ref vb), .val (.int 2)] [(.int 8), (.int 2)]))
  refine own_to (fun _ kont => XS.icmpNo X0.here hx rfl (hb hby d10_12) rfl (tlt (by decide)).2.1 kont) ?_
  show own_Ends _ _ _ _ (s₁.setTop (mkF m 15 #[.val (.ref va), .val (.ref vb), .val (.int 2)] []))
  refine own_to (fun _ kont => XS.aloadN X0.here hx rfl (hb hby d10_15) rfl rfl kont) ?_
  show own_Ends _ _ _ _ (s₁.setTop (mkF m 16 #[.val (.ref va), .val (.ref vb), .val (.int 2)] [(.ref va)]))
  refine own_to (fun _ kont => XS.iloadN X0.here hx rfl (hb hby d10_16) rfl kont) ?_
  show own_Ends _ _ _ _ (s₁.setTop (mkF m 17 #[.val (.ref va), .val (.ref vb), .val (.int 2)] [(.int 2), (.ref va)]))
  obtain ⟨cl10, Ar10, q10, S10, M10, H10, G10⟩ := id V_x
  have hin10 : ¬ ((2 : Int32) < 0 ∨ cl10.slots.size ≤ ((2 : Int32)).toNatClampNeg) := inb_of S10 ⟨by decide, by decide⟩
  have hat10 : cl10.slots[((2 : Int32)).toNatClampNeg]? = some (.int (103 : Int32)) := Has.at H10 hin10 rfl
  refine own_to (fun _ kont => X0.baloadBytes hx (j := (2 : Int32)) (v := (.int (103 : Int32))) (by rw [e0]; exact Ar10.1) (State.isArrayOf_alike hZ.alike Ar10.2.1) Ar10.2.2 hin10 hat10 (g := (mkF m 17 #[.val (.ref va), .val (.ref vb), .val (.int (2 : Int32))] [(.int (2 : Int32)), (.ref va)])) rfl rfl (hb hby d10_17) _ kont) ?_
  show own_Ends _ _ _ _ (s₁.setTop (mkF m 18 #[.val (.ref va), .val (.ref vb), .val (.int 2)] [(.int 103)]))
  refine own_to (fun _ kont => XS.aloadN X0.here hx rfl (hb hby d10_18) rfl rfl kont) ?_
  show own_Ends _ _ _ _ (s₁.setTop (mkF m 19 #[.val (.ref va), .val (.ref vb), .val (.int 2)] [(.ref vb), (.int 103)]))
  refine own_to (fun _ kont => XS.iloadN X0.here hx rfl (hb hby d10_19) rfl kont) ?_
  show own_Ends _ _ _ _ (s₁.setTop (mkF m 20 #[.val (.ref va), .val (.ref vb), .val (.int 2)] [(.int 2), (.ref vb), (.int 103)]))
  obtain ⟨cl11, Ar11, q11, S11, M11, H11, G11⟩ := id V_y
  have hin11 : ¬ ((2 : Int32) < 0 ∨ cl11.slots.size ≤ ((2 : Int32)).toNatClampNeg) := inb_of S11 ⟨by decide, by decide⟩
  have hat11 : cl11.slots[((2 : Int32)).toNatClampNeg]? = some (.int (103 : Int32)) := Has.at H11 hin11 rfl
  refine own_to (fun _ kont => X0.baloadBytes hx (j := (2 : Int32)) (v := (.int (103 : Int32))) (by rw [e0]; exact Ar11.1) (State.isArrayOf_alike hZ.alike Ar11.2.1) Ar11.2.2 hin11 hat11 (g := (mkF m 20 #[.val (.ref va), .val (.ref vb), .val (.int (2 : Int32))] [(.int (2 : Int32)), (.ref vb), (.int (103 : Int32))])) rfl rfl (hb hby d10_20) _ kont) ?_
  show own_Ends _ _ _ _ (s₁.setTop (mkF m 21 #[.val (.ref va), .val (.ref vb), .val (.int 2)] [(.int 103), (.int 103)]))
  refine own_to (fun _ kont => XS.icmpYes X0.here hx rfl (pc0 := 21) (pc' := 26) rfl (hb hby d10_21) rfl (teq (by decide)).1 (by decide) (by decide) kont) ?_
  show own_Ends _ _ _ _ (s₁.setTop (mkF m 26 #[.val (.ref va), .val (.ref vb), .val (.int 2)] []))
  refine own_to (fun _ kont => XS.iinc X0.here hx rfl (hb hby d10_26) rfl (l' := #[.val (.ref va), .val (.ref vb), .val (.int (3 : Int32))]) rfl kont) ?_
  show own_Ends _ _ _ _ (s₁.setTop (mkF m 29 #[.val (.ref va), .val (.ref vb), .val (.int 3)] []))
  refine own_to (fun _ kont => XS.goto X0.here hx rfl (pc0 := 29) (pc' := 9) rfl (hb hby d10_29) (by decide) (by decide) kont) ?_
  show own_Ends _ _ _ _ (s₁.setTop (mkF m 9 #[.val (.ref va), .val (.ref vb), .val (.int 3)] []))
  refine own_to (fun _ kont => XS.iloadN X0.here hx rfl (hb hby d10_9) rfl kont) ?_
  show own_Ends _ _ _ _ (s₁.setTop (mkF m 10 #[.val (.ref va), .val (.ref vb), .val (.int 3)] [(.int 3)]))
  refine own_to (fun _ kont => XS.aloadN X0.here hx rfl (hb hby d10_10) rfl rfl kont) ?_
  show own_Ends _ _ _ _ (s₁.setTop (mkF m 11 #[.val (.ref va), .val (.ref vb), .val (.int 3)] [(.ref va), (.int 3)]))
  obtain ⟨cl12, Ar12, q12, S12, M12, -, -⟩ := id V_x
  refine own_to (fun _ kont => X0.arraylength hx (by rw [e0]; exact Ar12.1) (State.isArrayOf_alike hZ.alike Ar12.2.1) (g := (mkF m 11 #[.val (.ref va), .val (.ref vb), .val (.int (3 : Int32))] [(.ref va), (.int (3 : Int32))])) rfl rfl (hb hby d10_11) _ kont) ?_
  rw [len_of S12 M12]
  show own_Ends _ _ _ _ (s₁.setTop (mkF m 12 #[.val (.ref va), .val (.ref vb), .val (.int 3)] [(.int 8), (.int 3)]))
  refine own_to (fun _ kont => XS.icmpNo X0.here hx rfl (hb hby d10_12) rfl (tlt (by decide)).2.1 kont) ?_
  show own_Ends _ _ _ _ (s₁.setTop (mkF m 15 #[.val (.ref va), .val (.ref vb), .val (.int 3)] []))
  refine own_to (fun _ kont => XS.aloadN X0.here hx rfl (hb hby d10_15) rfl rfl kont) ?_
  show own_Ends _ _ _ _ (s₁.setTop (mkF m 16 #[.val (.ref va), .val (.ref vb), .val (.int 3)] [(.ref va)]))
  refine own_to (fun _ kont => XS.iloadN X0.here hx rfl (hb hby d10_16) rfl kont) ?_
  show own_Ends _ _ _ _ (s₁.setTop (mkF m 17 #[.val (.ref va), .val (.ref vb), .val (.int 3)] [(.int 3), (.ref va)]))
  obtain ⟨cl13, Ar13, q13, S13, M13, H13, G13⟩ := id V_x
  have hin13 : ¬ ((3 : Int32) < 0 ∨ cl13.slots.size ≤ ((3 : Int32)).toNatClampNeg) := inb_of S13 ⟨by decide, by decide⟩
  have hat13 : cl13.slots[((3 : Int32)).toNatClampNeg]? = some (.int (105 : Int32)) := Has.at H13 hin13 rfl
  refine own_to (fun _ kont => X0.baloadBytes hx (j := (3 : Int32)) (v := (.int (105 : Int32))) (by rw [e0]; exact Ar13.1) (State.isArrayOf_alike hZ.alike Ar13.2.1) Ar13.2.2 hin13 hat13 (g := (mkF m 17 #[.val (.ref va), .val (.ref vb), .val (.int (3 : Int32))] [(.int (3 : Int32)), (.ref va)])) rfl rfl (hb hby d10_17) _ kont) ?_
  show own_Ends _ _ _ _ (s₁.setTop (mkF m 18 #[.val (.ref va), .val (.ref vb), .val (.int 3)] [(.int 105)]))
  refine own_to (fun _ kont => XS.aloadN X0.here hx rfl (hb hby d10_18) rfl rfl kont) ?_
  show own_Ends _ _ _ _ (s₁.setTop (mkF m 19 #[.val (.ref va), .val (.ref vb), .val (.int 3)] [(.ref vb), (.int 105)]))
  refine own_to (fun _ kont => XS.iloadN X0.here hx rfl (hb hby d10_19) rfl kont) ?_
  show own_Ends _ _ _ _ (s₁.setTop (mkF m 20 #[.val (.ref va), .val (.ref vb), .val (.int 3)] [(.int 3), (.ref vb), (.int 105)]))
  obtain ⟨cl14, Ar14, q14, S14, M14, H14, G14⟩ := id V_y
  have hin14 : ¬ ((3 : Int32) < 0 ∨ cl14.slots.size ≤ ((3 : Int32)).toNatClampNeg) := inb_of S14 ⟨by decide, by decide⟩
  have hat14 : cl14.slots[((3 : Int32)).toNatClampNeg]? = some (.int (105 : Int32)) := Has.at H14 hin14 rfl
  refine own_to (fun _ kont => X0.baloadBytes hx (j := (3 : Int32)) (v := (.int (105 : Int32))) (by rw [e0]; exact Ar14.1) (State.isArrayOf_alike hZ.alike Ar14.2.1) Ar14.2.2 hin14 hat14 (g := (mkF m 20 #[.val (.ref va), .val (.ref vb), .val (.int (3 : Int32))] [(.int (3 : Int32)), (.ref vb), (.int (105 : Int32))])) rfl rfl (hb hby d10_20) _ kont) ?_
  show own_Ends _ _ _ _ (s₁.setTop (mkF m 21 #[.val (.ref va), .val (.ref vb), .val (.int 3)] [(.int 105), (.int 105)]))
  refine own_to (fun _ kont => XS.icmpYes X0.here hx rfl (pc0 := 21) (pc' := 26) rfl (hb hby d10_21) rfl (teq (by decide)).1 (by decide) (by decide) kont) ?_
  show own_Ends _ _ _ _ (s₁.setTop (mkF m 26 #[.val (.ref va), .val (.ref vb), .val (.int 3)] []))
  refine own_to (fun _ kont => XS.iinc X0.here hx rfl (hb hby d10_26) rfl (l' := #[.val (.ref va), .val (.ref vb), .val (.int (4 : Int32))]) rfl kont) ?_
  show own_Ends _ _ _ _ (s₁.setTop (mkF m 29 #[.val (.ref va), .val (.ref vb), .val (.int 4)] []))
  refine own_to (fun _ kont => XS.goto X0.here hx rfl (pc0 := 29) (pc' := 9) rfl (hb hby d10_29) (by decide) (by decide) kont) ?_
  show own_Ends _ _ _ _ (s₁.setTop (mkF m 9 #[.val (.ref va), .val (.ref vb), .val (.int 4)] []))
  refine own_to (fun _ kont => XS.iloadN X0.here hx rfl (hb hby d10_9) rfl kont) ?_
  show own_Ends _ _ _ _ (s₁.setTop (mkF m 10 #[.val (.ref va), .val (.ref vb), .val (.int 4)] [(.int 4)]))
  refine own_to (fun _ kont => XS.aloadN X0.here hx rfl (hb hby d10_10) rfl rfl kont) ?_
  show own_Ends _ _ _ _ (s₁.setTop (mkF m 11 #[.val (.ref va), .val (.ref vb), .val (.int 4)] [(.ref va), (.int 4)]))
  obtain ⟨cl15, Ar15, q15, S15, M15, -, -⟩ := id V_x
  refine own_to (fun _ kont => X0.arraylength hx (by rw [e0]; exact Ar15.1) (State.isArrayOf_alike hZ.alike Ar15.2.1) (g := (mkF m 11 #[.val (.ref va), .val (.ref vb), .val (.int (4 : Int32))] [(.ref va), (.int (4 : Int32))])) rfl rfl (hb hby d10_11) _ kont) ?_
  rw [len_of S15 M15]
  show own_Ends _ _ _ _ (s₁.setTop (mkF m 12 #[.val (.ref va), .val (.ref vb), .val (.int 4)] [(.int 8), (.int 4)]))
  refine own_to (fun _ kont => XS.icmpNo X0.here hx rfl (hb hby d10_12) rfl (tlt (by decide)).2.1 kont) ?_
  show own_Ends _ _ _ _ (s₁.setTop (mkF m 15 #[.val (.ref va), .val (.ref vb), .val (.int 4)] []))
  refine own_to (fun _ kont => XS.aloadN X0.here hx rfl (hb hby d10_15) rfl rfl kont) ?_
  show own_Ends _ _ _ _ (s₁.setTop (mkF m 16 #[.val (.ref va), .val (.ref vb), .val (.int 4)] [(.ref va)]))
  refine own_to (fun _ kont => XS.iloadN X0.here hx rfl (hb hby d10_16) rfl kont) ?_
  show own_Ends _ _ _ _ (s₁.setTop (mkF m 17 #[.val (.ref va), .val (.ref vb), .val (.int 4)] [(.int 4), (.ref va)]))
  obtain ⟨cl16, Ar16, q16, S16, M16, H16, G16⟩ := id V_x
  have hin16 : ¬ ((4 : Int32) < 0 ∨ cl16.slots.size ≤ ((4 : Int32)).toNatClampNeg) := inb_of S16 ⟨by decide, by decide⟩
  have hat16 : cl16.slots[((4 : Int32)).toNatClampNeg]? = some (.int (115 : Int32)) := Has.at H16 hin16 rfl
  refine own_to (fun _ kont => X0.baloadBytes hx (j := (4 : Int32)) (v := (.int (115 : Int32))) (by rw [e0]; exact Ar16.1) (State.isArrayOf_alike hZ.alike Ar16.2.1) Ar16.2.2 hin16 hat16 (g := (mkF m 17 #[.val (.ref va), .val (.ref vb), .val (.int (4 : Int32))] [(.int (4 : Int32)), (.ref va)])) rfl rfl (hb hby d10_17) _ kont) ?_
  show own_Ends _ _ _ _ (s₁.setTop (mkF m 18 #[.val (.ref va), .val (.ref vb), .val (.int 4)] [(.int 115)]))
  refine own_to (fun _ kont => XS.aloadN X0.here hx rfl (hb hby d10_18) rfl rfl kont) ?_
  show own_Ends _ _ _ _ (s₁.setTop (mkF m 19 #[.val (.ref va), .val (.ref vb), .val (.int 4)] [(.ref vb), (.int 115)]))
  refine own_to (fun _ kont => XS.iloadN X0.here hx rfl (hb hby d10_19) rfl kont) ?_
  show own_Ends _ _ _ _ (s₁.setTop (mkF m 20 #[.val (.ref va), .val (.ref vb), .val (.int 4)] [(.int 4), (.ref vb), (.int 115)]))
  obtain ⟨cl17, Ar17, q17, S17, M17, H17, G17⟩ := id V_y
  have hin17 : ¬ ((4 : Int32) < 0 ∨ cl17.slots.size ≤ ((4 : Int32)).toNatClampNeg) := inb_of S17 ⟨by decide, by decide⟩
  have hat17 : cl17.slots[((4 : Int32)).toNatClampNeg]? = some (.int (115 : Int32)) := Has.at H17 hin17 rfl
  refine own_to (fun _ kont => X0.baloadBytes hx (j := (4 : Int32)) (v := (.int (115 : Int32))) (by rw [e0]; exact Ar17.1) (State.isArrayOf_alike hZ.alike Ar17.2.1) Ar17.2.2 hin17 hat17 (g := (mkF m 20 #[.val (.ref va), .val (.ref vb), .val (.int (4 : Int32))] [(.int (4 : Int32)), (.ref vb), (.int (115 : Int32))])) rfl rfl (hb hby d10_20) _ kont) ?_
  show own_Ends _ _ _ _ (s₁.setTop (mkF m 21 #[.val (.ref va), .val (.ref vb), .val (.int 4)] [(.int 115), (.int 115)]))
  refine own_to (fun _ kont => XS.icmpYes X0.here hx rfl (pc0 := 21) (pc' := 26) rfl (hb hby d10_21) rfl (teq (by decide)).1 (by decide) (by decide) kont) ?_
  show own_Ends _ _ _ _ (s₁.setTop (mkF m 26 #[.val (.ref va), .val (.ref vb), .val (.int 4)] []))
  refine own_to (fun _ kont => XS.iinc X0.here hx rfl (hb hby d10_26) rfl (l' := #[.val (.ref va), .val (.ref vb), .val (.int (5 : Int32))]) rfl kont) ?_
  show own_Ends _ _ _ _ (s₁.setTop (mkF m 29 #[.val (.ref va), .val (.ref vb), .val (.int 5)] []))
  refine own_to (fun _ kont => XS.goto X0.here hx rfl (pc0 := 29) (pc' := 9) rfl (hb hby d10_29) (by decide) (by decide) kont) ?_
  show own_Ends _ _ _ _ (s₁.setTop (mkF m 9 #[.val (.ref va), .val (.ref vb), .val (.int 5)] []))
  refine own_to (fun _ kont => XS.iloadN X0.here hx rfl (hb hby d10_9) rfl kont) ?_
  show own_Ends _ _ _ _ (s₁.setTop (mkF m 10 #[.val (.ref va), .val (.ref vb), .val (.int 5)] [(.int 5)]))
  refine own_to (fun _ kont => XS.aloadN X0.here hx rfl (hb hby d10_10) rfl rfl kont) ?_
  show own_Ends _ _ _ _ (s₁.setTop (mkF m 11 #[.val (.ref va), .val (.ref vb), .val (.int 5)] [(.ref va), (.int 5)]))
  obtain ⟨cl18, Ar18, q18, S18, M18, -, -⟩ := id V_x
  refine own_to (fun _ kont => X0.arraylength hx (by rw [e0]; exact Ar18.1) (State.isArrayOf_alike hZ.alike Ar18.2.1) (g := (mkF m 11 #[.val (.ref va), .val (.ref vb), .val (.int (5 : Int32))] [(.ref va), (.int (5 : Int32))])) rfl rfl (hb hby d10_11) _ kont) ?_
  rw [len_of S18 M18]
  show own_Ends _ _ _ _ (s₁.setTop (mkF m 12 #[.val (.ref va), .val (.ref vb), .val (.int 5)] [(.int 8), (.int 5)]))
  refine own_to (fun _ kont => XS.icmpNo X0.here hx rfl (hb hby d10_12) rfl (tlt (by decide)).2.1 kont) ?_
  show own_Ends _ _ _ _ (s₁.setTop (mkF m 15 #[.val (.ref va), .val (.ref vb), .val (.int 5)] []))
  refine own_to (fun _ kont => XS.aloadN X0.here hx rfl (hb hby d10_15) rfl rfl kont) ?_
  show own_Ends _ _ _ _ (s₁.setTop (mkF m 16 #[.val (.ref va), .val (.ref vb), .val (.int 5)] [(.ref va)]))
  refine own_to (fun _ kont => XS.iloadN X0.here hx rfl (hb hby d10_16) rfl kont) ?_
  show own_Ends _ _ _ _ (s₁.setTop (mkF m 17 #[.val (.ref va), .val (.ref vb), .val (.int 5)] [(.int 5), (.ref va)]))
  obtain ⟨cl19, Ar19, q19, S19, M19, H19, G19⟩ := id V_x
  have hin19 : ¬ ((5 : Int32) < 0 ∨ cl19.slots.size ≤ ((5 : Int32)).toNatClampNeg) := inb_of S19 ⟨by decide, by decide⟩
  have hat19 : cl19.slots[((5 : Int32)).toNatClampNeg]? = some (.int (116 : Int32)) := Has.at H19 hin19 rfl
  refine own_to (fun _ kont => X0.baloadBytes hx (j := (5 : Int32)) (v := (.int (116 : Int32))) (by rw [e0]; exact Ar19.1) (State.isArrayOf_alike hZ.alike Ar19.2.1) Ar19.2.2 hin19 hat19 (g := (mkF m 17 #[.val (.ref va), .val (.ref vb), .val (.int (5 : Int32))] [(.int (5 : Int32)), (.ref va)])) rfl rfl (hb hby d10_17) _ kont) ?_
  show own_Ends _ _ _ _ (s₁.setTop (mkF m 18 #[.val (.ref va), .val (.ref vb), .val (.int 5)] [(.int 116)]))
  refine own_to (fun _ kont => XS.aloadN X0.here hx rfl (hb hby d10_18) rfl rfl kont) ?_
  show own_Ends _ _ _ _ (s₁.setTop (mkF m 19 #[.val (.ref va), .val (.ref vb), .val (.int 5)] [(.ref vb), (.int 116)]))
  refine own_to (fun _ kont => XS.iloadN X0.here hx rfl (hb hby d10_19) rfl kont) ?_
  show own_Ends _ _ _ _ (s₁.setTop (mkF m 20 #[.val (.ref va), .val (.ref vb), .val (.int 5)] [(.int 5), (.ref vb), (.int 116)]))
  obtain ⟨cl20, Ar20, q20, S20, M20, H20, G20⟩ := id V_y
  have hin20 : ¬ ((5 : Int32) < 0 ∨ cl20.slots.size ≤ ((5 : Int32)).toNatClampNeg) := inb_of S20 ⟨by decide, by decide⟩
  have hat20 : cl20.slots[((5 : Int32)).toNatClampNeg]? = some (.int (116 : Int32)) := Has.at H20 hin20 rfl
  refine own_to (fun _ kont => X0.baloadBytes hx (j := (5 : Int32)) (v := (.int (116 : Int32))) (by rw [e0]; exact Ar20.1) (State.isArrayOf_alike hZ.alike Ar20.2.1) Ar20.2.2 hin20 hat20 (g := (mkF m 20 #[.val (.ref va), .val (.ref vb), .val (.int (5 : Int32))] [(.int (5 : Int32)), (.ref vb), (.int (116 : Int32))])) rfl rfl (hb hby d10_20) _ kont) ?_
  show own_Ends _ _ _ _ (s₁.setTop (mkF m 21 #[.val (.ref va), .val (.ref vb), .val (.int 5)] [(.int 116), (.int 116)]))
  refine own_to (fun _ kont => XS.icmpYes X0.here hx rfl (pc0 := 21) (pc' := 26) rfl (hb hby d10_21) rfl (teq (by decide)).1 (by decide) (by decide) kont) ?_
  show own_Ends _ _ _ _ (s₁.setTop (mkF m 26 #[.val (.ref va), .val (.ref vb), .val (.int 5)] []))
  refine own_to (fun _ kont => XS.iinc X0.here hx rfl (hb hby d10_26) rfl (l' := #[.val (.ref va), .val (.ref vb), .val (.int (6 : Int32))]) rfl kont) ?_
  show own_Ends _ _ _ _ (s₁.setTop (mkF m 29 #[.val (.ref va), .val (.ref vb), .val (.int 6)] []))
  refine own_to (fun _ kont => XS.goto X0.here hx rfl (pc0 := 29) (pc' := 9) rfl (hb hby d10_29) (by decide) (by decide) kont) ?_
  show own_Ends _ _ _ _ (s₁.setTop (mkF m 9 #[.val (.ref va), .val (.ref vb), .val (.int 6)] []))
  refine own_to (fun _ kont => XS.iloadN X0.here hx rfl (hb hby d10_9) rfl kont) ?_
  show own_Ends _ _ _ _ (s₁.setTop (mkF m 10 #[.val (.ref va), .val (.ref vb), .val (.int 6)] [(.int 6)]))
  refine own_to (fun _ kont => XS.aloadN X0.here hx rfl (hb hby d10_10) rfl rfl kont) ?_
  show own_Ends _ _ _ _ (s₁.setTop (mkF m 11 #[.val (.ref va), .val (.ref vb), .val (.int 6)] [(.ref va), (.int 6)]))
  obtain ⟨cl21, Ar21, q21, S21, M21, -, -⟩ := id V_x
  refine own_to (fun _ kont => X0.arraylength hx (by rw [e0]; exact Ar21.1) (State.isArrayOf_alike hZ.alike Ar21.2.1) (g := (mkF m 11 #[.val (.ref va), .val (.ref vb), .val (.int (6 : Int32))] [(.ref va), (.int (6 : Int32))])) rfl rfl (hb hby d10_11) _ kont) ?_
  rw [len_of S21 M21]
  show own_Ends _ _ _ _ (s₁.setTop (mkF m 12 #[.val (.ref va), .val (.ref vb), .val (.int 6)] [(.int 8), (.int 6)]))
  refine own_to (fun _ kont => XS.icmpNo X0.here hx rfl (hb hby d10_12) rfl (tlt (by decide)).2.1 kont) ?_
  show own_Ends _ _ _ _ (s₁.setTop (mkF m 15 #[.val (.ref va), .val (.ref vb), .val (.int 6)] []))
  refine own_to (fun _ kont => XS.aloadN X0.here hx rfl (hb hby d10_15) rfl rfl kont) ?_
  show own_Ends _ _ _ _ (s₁.setTop (mkF m 16 #[.val (.ref va), .val (.ref vb), .val (.int 6)] [(.ref va)]))
  refine own_to (fun _ kont => XS.iloadN X0.here hx rfl (hb hby d10_16) rfl kont) ?_
  show own_Ends _ _ _ _ (s₁.setTop (mkF m 17 #[.val (.ref va), .val (.ref vb), .val (.int 6)] [(.int 6), (.ref va)]))
  obtain ⟨cl22, Ar22, q22, S22, M22, H22, G22⟩ := id V_x
  have hin22 : ¬ ((6 : Int32) < 0 ∨ cl22.slots.size ≤ ((6 : Int32)).toNatClampNeg) := inb_of S22 ⟨by decide, by decide⟩
  have hat22 : cl22.slots[((6 : Int32)).toNatClampNeg]? = some (.int (114 : Int32)) := Has.at H22 hin22 rfl
  refine own_to (fun _ kont => X0.baloadBytes hx (j := (6 : Int32)) (v := (.int (114 : Int32))) (by rw [e0]; exact Ar22.1) (State.isArrayOf_alike hZ.alike Ar22.2.1) Ar22.2.2 hin22 hat22 (g := (mkF m 17 #[.val (.ref va), .val (.ref vb), .val (.int (6 : Int32))] [(.int (6 : Int32)), (.ref va)])) rfl rfl (hb hby d10_17) _ kont) ?_
  show own_Ends _ _ _ _ (s₁.setTop (mkF m 18 #[.val (.ref va), .val (.ref vb), .val (.int 6)] [(.int 114)]))
  refine own_to (fun _ kont => XS.aloadN X0.here hx rfl (hb hby d10_18) rfl rfl kont) ?_
  show own_Ends _ _ _ _ (s₁.setTop (mkF m 19 #[.val (.ref va), .val (.ref vb), .val (.int 6)] [(.ref vb), (.int 114)]))
  refine own_to (fun _ kont => XS.iloadN X0.here hx rfl (hb hby d10_19) rfl kont) ?_
  show own_Ends _ _ _ _ (s₁.setTop (mkF m 20 #[.val (.ref va), .val (.ref vb), .val (.int 6)] [(.int 6), (.ref vb), (.int 114)]))
  obtain ⟨cl23, Ar23, q23, S23, M23, H23, G23⟩ := id V_y
  have hin23 : ¬ ((6 : Int32) < 0 ∨ cl23.slots.size ≤ ((6 : Int32)).toNatClampNeg) := inb_of S23 ⟨by decide, by decide⟩
  have hat23 : cl23.slots[((6 : Int32)).toNatClampNeg]? = some (.int (114 : Int32)) := Has.at H23 hin23 rfl
  refine own_to (fun _ kont => X0.baloadBytes hx (j := (6 : Int32)) (v := (.int (114 : Int32))) (by rw [e0]; exact Ar23.1) (State.isArrayOf_alike hZ.alike Ar23.2.1) Ar23.2.2 hin23 hat23 (g := (mkF m 20 #[.val (.ref va), .val (.ref vb), .val (.int (6 : Int32))] [(.int (6 : Int32)), (.ref vb), (.int (114 : Int32))])) rfl rfl (hb hby d10_20) _ kont) ?_
  show own_Ends _ _ _ _ (s₁.setTop (mkF m 21 #[.val (.ref va), .val (.ref vb), .val (.int 6)] [(.int 114), (.int 114)]))
  refine own_to (fun _ kont => XS.icmpYes X0.here hx rfl (pc0 := 21) (pc' := 26) rfl (hb hby d10_21) rfl (teq (by decide)).1 (by decide) (by decide) kont) ?_
  show own_Ends _ _ _ _ (s₁.setTop (mkF m 26 #[.val (.ref va), .val (.ref vb), .val (.int 6)] []))
  refine own_to (fun _ kont => XS.iinc X0.here hx rfl (hb hby d10_26) rfl (l' := #[.val (.ref va), .val (.ref vb), .val (.int (7 : Int32))]) rfl kont) ?_
  show own_Ends _ _ _ _ (s₁.setTop (mkF m 29 #[.val (.ref va), .val (.ref vb), .val (.int 7)] []))
  refine own_to (fun _ kont => XS.goto X0.here hx rfl (pc0 := 29) (pc' := 9) rfl (hb hby d10_29) (by decide) (by decide) kont) ?_
  show own_Ends _ _ _ _ (s₁.setTop (mkF m 9 #[.val (.ref va), .val (.ref vb), .val (.int 7)] []))
  refine own_to (fun _ kont => XS.iloadN X0.here hx rfl (hb hby d10_9) rfl kont) ?_
  show own_Ends _ _ _ _ (s₁.setTop (mkF m 10 #[.val (.ref va), .val (.ref vb), .val (.int 7)] [(.int 7)]))
  refine own_to (fun _ kont => XS.aloadN X0.here hx rfl (hb hby d10_10) rfl rfl kont) ?_
  show own_Ends _ _ _ _ (s₁.setTop (mkF m 11 #[.val (.ref va), .val (.ref vb), .val (.int 7)] [(.ref va), (.int 7)]))
  obtain ⟨cl24, Ar24, q24, S24, M24, -, -⟩ := id V_x
  refine own_to (fun _ kont => X0.arraylength hx (by rw [e0]; exact Ar24.1) (State.isArrayOf_alike hZ.alike Ar24.2.1) (g := (mkF m 11 #[.val (.ref va), .val (.ref vb), .val (.int (7 : Int32))] [(.ref va), (.int (7 : Int32))])) rfl rfl (hb hby d10_11) _ kont) ?_
  rw [len_of S24 M24]
  show own_Ends _ _ _ _ (s₁.setTop (mkF m 12 #[.val (.ref va), .val (.ref vb), .val (.int 7)] [(.int 8), (.int 7)]))
  refine own_to (fun _ kont => XS.icmpNo X0.here hx rfl (hb hby d10_12) rfl (tlt (by decide)).2.1 kont) ?_
  show own_Ends _ _ _ _ (s₁.setTop (mkF m 15 #[.val (.ref va), .val (.ref vb), .val (.int 7)] []))
  refine own_to (fun _ kont => XS.aloadN X0.here hx rfl (hb hby d10_15) rfl rfl kont) ?_
  show own_Ends _ _ _ _ (s₁.setTop (mkF m 16 #[.val (.ref va), .val (.ref vb), .val (.int 7)] [(.ref va)]))
  refine own_to (fun _ kont => XS.iloadN X0.here hx rfl (hb hby d10_16) rfl kont) ?_
  show own_Ends _ _ _ _ (s₁.setTop (mkF m 17 #[.val (.ref va), .val (.ref vb), .val (.int 7)] [(.int 7), (.ref va)]))
  obtain ⟨cl25, Ar25, q25, S25, M25, H25, G25⟩ := id V_x
  have hin25 : ¬ ((7 : Int32) < 0 ∨ cl25.slots.size ≤ ((7 : Int32)).toNatClampNeg) := inb_of S25 ⟨by decide, by decide⟩
  have hat25 : cl25.slots[((7 : Int32)).toNatClampNeg]? = some (.int (121 : Int32)) := Has.at H25 hin25 rfl
  refine own_to (fun _ kont => X0.baloadBytes hx (j := (7 : Int32)) (v := (.int (121 : Int32))) (by rw [e0]; exact Ar25.1) (State.isArrayOf_alike hZ.alike Ar25.2.1) Ar25.2.2 hin25 hat25 (g := (mkF m 17 #[.val (.ref va), .val (.ref vb), .val (.int (7 : Int32))] [(.int (7 : Int32)), (.ref va)])) rfl rfl (hb hby d10_17) _ kont) ?_
  show own_Ends _ _ _ _ (s₁.setTop (mkF m 18 #[.val (.ref va), .val (.ref vb), .val (.int 7)] [(.int 121)]))
  refine own_to (fun _ kont => XS.aloadN X0.here hx rfl (hb hby d10_18) rfl rfl kont) ?_
  show own_Ends _ _ _ _ (s₁.setTop (mkF m 19 #[.val (.ref va), .val (.ref vb), .val (.int 7)] [(.ref vb), (.int 121)]))
  refine own_to (fun _ kont => XS.iloadN X0.here hx rfl (hb hby d10_19) rfl kont) ?_
  show own_Ends _ _ _ _ (s₁.setTop (mkF m 20 #[.val (.ref va), .val (.ref vb), .val (.int 7)] [(.int 7), (.ref vb), (.int 121)]))
  obtain ⟨cl26, Ar26, q26, S26, M26, H26, G26⟩ := id V_y
  have hin26 : ¬ ((7 : Int32) < 0 ∨ cl26.slots.size ≤ ((7 : Int32)).toNatClampNeg) := inb_of S26 ⟨by decide, by decide⟩
  have hat26 : cl26.slots[((7 : Int32)).toNatClampNeg]? = some (.int (121 : Int32)) := Has.at H26 hin26 rfl
  refine own_to (fun _ kont => X0.baloadBytes hx (j := (7 : Int32)) (v := (.int (121 : Int32))) (by rw [e0]; exact Ar26.1) (State.isArrayOf_alike hZ.alike Ar26.2.1) Ar26.2.2 hin26 hat26 (g := (mkF m 20 #[.val (.ref va), .val (.ref vb), .val (.int (7 : Int32))] [(.int (7 : Int32)), (.ref vb), (.int (121 : Int32))])) rfl rfl (hb hby d10_20) _ kont) ?_
  show own_Ends _ _ _ _ (s₁.setTop (mkF m 21 #[.val (.ref va), .val (.ref vb), .val (.int 7)] [(.int 121), (.int 121)]))
  refine own_to (fun _ kont => XS.icmpYes X0.here hx rfl (pc0 := 21) (pc' := 26) rfl (hb hby d10_21) rfl (teq (by decide)).1 (by decide) (by decide) kont) ?_
  show own_Ends _ _ _ _ (s₁.setTop (mkF m 26 #[.val (.ref va), .val (.ref vb), .val (.int 7)] []))
  refine own_to (fun _ kont => XS.iinc X0.here hx rfl (hb hby d10_26) rfl (l' := #[.val (.ref va), .val (.ref vb), .val (.int (8 : Int32))]) rfl kont) ?_
  show own_Ends _ _ _ _ (s₁.setTop (mkF m 29 #[.val (.ref va), .val (.ref vb), .val (.int 8)] []))
  refine own_to (fun _ kont => XS.goto X0.here hx rfl (pc0 := 29) (pc' := 9) rfl (hb hby d10_29) (by decide) (by decide) kont) ?_
  show own_Ends _ _ _ _ (s₁.setTop (mkF m 9 #[.val (.ref va), .val (.ref vb), .val (.int 8)] []))
  refine own_to (fun _ kont => XS.iloadN X0.here hx rfl (hb hby d10_9) rfl kont) ?_
  show own_Ends _ _ _ _ (s₁.setTop (mkF m 10 #[.val (.ref va), .val (.ref vb), .val (.int 8)] [(.int 8)]))
  refine own_to (fun _ kont => XS.aloadN X0.here hx rfl (hb hby d10_10) rfl rfl kont) ?_
  show own_Ends _ _ _ _ (s₁.setTop (mkF m 11 #[.val (.ref va), .val (.ref vb), .val (.int 8)] [(.ref va), (.int 8)]))
  obtain ⟨cl27, Ar27, q27, S27, M27, -, -⟩ := id V_x
  refine own_to (fun _ kont => X0.arraylength hx (by rw [e0]; exact Ar27.1) (State.isArrayOf_alike hZ.alike Ar27.2.1) (g := (mkF m 11 #[.val (.ref va), .val (.ref vb), .val (.int (8 : Int32))] [(.ref va), (.int (8 : Int32))])) rfl rfl (hb hby d10_11) _ kont) ?_
  rw [len_of S27 M27]
  show own_Ends _ _ _ _ (s₁.setTop (mkF m 12 #[.val (.ref va), .val (.ref vb), .val (.int 8)] [(.int 8), (.int 8)]))
  refine own_to (fun _ kont => XS.icmpYes X0.here hx rfl (pc0 := 12) (pc' := 32) rfl (hb hby d10_12) rfl (flt (by decide)).2.1 (by decide) (by decide) kont) ?_
  show own_Ends _ _ _ _ (s₁.setTop (mkF m 32 #[.val (.ref va), .val (.ref vb), .val (.int 8)] []))
  refine own_to (fun _ kont => XS.iconst X0.here hx rfl (hb hby d10_32) kont) ?_
  show own_Ends _ _ _ _ (s₁.setTop (mkF m 33 #[.val (.ref va), .val (.ref vb), .val (.int 8)] [(.int 1)]))
  refine own_leave X0 (v := some (.int (1 : Int32))) (fun h => by rw [Bd.returns] at h; cases h) ?_ (by decide) (by decide) (fun fs hr => retN X0 hx (t := .boolean) Bd.returns (by simp) (hb hby d10_33) hr)
  show Q_leqBB Z va vb ka kb h0 n0 _ s₁.heap _
  rw [e0]
  exact ⟨rfl, N0, rfl⟩
theorem ef_seqBB (m : MethodId) (a : Addr) (b : Addr) : entryFrame m #[(.ref a), (.ref b)] 3 = mkF m 0 #[.val (.ref a), .val (.ref b), .unset] [] := by first | (simp [entryFrame, mkF, argsToLocals, Value.category]; done) | rfl | (rcases ref_cases hrf with rfl | ⟨q, rfl⟩ <;> rfl)
def Q_seqBB (Z : State) (a : Addr) (b : Addr) (va : Addr) (vb : Addr) (ka : ClassId) (kb : ClassId) (cs_ : Int32) (h0 : Heap) (n0 : Nat) (v : Option Value) (h : Heap) (L : List Loc) : Prop := v = some (.int (1 : Int32)) ∧ Fr n0 L ∧ h = h0
set_option maxRecDepth 65536 in
set_option maxHeartbeats 40000000 in
theorem seqBB (l : Launch) (Z : State) (a0 : Array Value) (hw : ∀ d ∈ tables_1, d.before a0 Z = true) (ws : List Jvm.Cond) (a : Addr) (b : Addr) (va : Addr) (vb : Addr) (ka : ClassId) (kb : ClassId) (cs_ : Int32) (h0 : Heap) (n0 : Nat) (O0 : Old Z n0 h0) (ne_ab : ¬ a = b) (E_b : Exa Z h0 b "java/lang/String") (F_va : Fld Z h0 a "java/lang/String" "value" "[B" (.ref va)) (F_vb : Fld Z h0 b "java/lang/String" "value" "[B" (.ref vb)) (F_ca : Fld Z h0 a "java/lang/String" "coder" "B" (.int (0 : Int32))) (F_cb : Fld Z h0 b "java/lang/String" "coder" "B" (.int (0 : Int32))) (V_x : Arv Z h0 va ka .byte (8 : Int32) [(.int (114 : Int32)), (.int (101 : Int32)), (.int (103 : Int32)), (.int (105 : Int32)), (.int (115 : Int32)), (.int (116 : Int32)), (.int (114 : Int32)), (.int (121 : Int32))] (.int (0 : Int32))) (V_y : Arv Z h0 vb kb .byte (8 : Int32) [(.int (114 : Int32)), (.int (101 : Int32)), (.int (103 : Int32)), (.int (105 : Int32)), (.int (115 : Int32)), (.int (116 : Int32)), (.int (114 : Int32)), (.int (121 : Int32))] (.int (0 : Int32))) (S_cs : Sta Z Z.heap "java/lang/String" "COMPACT_STRINGS" "Z" (.int cs_)) (hcs : ¬ cs_ = (0 : Int32)) :
    MetFree l oM6 (head1 (Jvm.Cond.code oM6 jdk_42_method_66_code 3 (some .boolean) :: ws) ({ frames := 1, cells := 0, slots := 0, locals := 14 } : Room)) (fun aq_ U => aq_ = #[(.ref a), (.ref b)] ∧ Z.Warmed39 U.vm ∧ U.heap = h0) (fun _ _ _ _ _ => True) (fun _ U o U' => ∃ v L, o = .returned v ∧ Q_seqBB Z a b va vb ka kb cs_ h0 n0 v U'.heap L ∧ FrameEnd U o U' L ({ frames := 1, cells := 0, slots := 0, locals := 14 } : Room).cells ({ frames := 1, cells := 0, slots := 0, locals := 14 } : Room).slots) := by
  refine MetFree.of_bodySF (plainFor_of_name pn_9) hisR ?_
  intro p e s m args below meth c s₁ Bd hml0 hP hK
  obtain ⟨rfl, hZ, hh⟩ := hP
  have hx := Bd.exec
  have hby := Bd.bytes
  have hml : c.maxLocals = 3 := hml0
  have hown : s.vm.findClass "java/lang/String" = some m.cls := findClass_of_methodNamed Bd.named
  have hnm := (name_of_methodNamed Bd.named Bd.method).1
  have X0 : Stand p l e ({ frames := 1, cells := 0, slots := 0, locals := 14 } : Room) s m #[(.ref a), (.ref b)] below meth c s₁ [] 0 0 := Stand.of_body Bd
  have e0 : s₁.heap = h0 := by rw [← hh, Bd.state]; rfl
  have N0 := Fr.nil n0
  show own_Ends p.tables e below (own_P s (Q_seqBB Z a b va vb ka kb cs_ h0 n0) ({ frames := 1, cells := 0, slots := 0, locals := 14 } : Room).cells ({ frames := 1, cells := 0, slots := 0, locals := 14 } : Room).slots) _
  refine own_cast (ef_seqBB m a b) ?_
  show own_Ends _ _ _ _ (s₁.setTop (mkF m 0 #[.val (.ref a), .val (.ref b), .unset] []))
  refine own_to (fun _ kont => XS.aloadN X0.here hx rfl (hb hby d9_0) rfl rfl kont) ?_
  show own_Ends _ _ _ _ (s₁.setTop (mkF m 1 #[.val (.ref a), .val (.ref b), .unset] [(.ref a)]))
  refine own_to (fun _ kont => XS.aloadN X0.here hx rfl (hb hby d9_1) rfl rfl kont) ?_
  show own_Ends _ _ _ _ (s₁.setTop (mkF m 2 #[.val (.ref a), .val (.ref b), .unset] [(.ref b), (.ref a)]))
  refine own_to (fun _ kont => Jvm.RoadKit.acmp (g := (mkF m 2 #[.val (.ref a), .val (.ref b), .unset] [(.ref b), (.ref a)])) X0 hx rfl rfl rfl (pc0 := 2) (pc' := 7) (same := false) rfl (hb hby d9_2) rfl (decide_eq_false fun q => ne_ab (Value.ref.inj q)) (by decide) (by decide) kont) ?_
  show own_Ends _ _ _ _ (s₁.setTop (mkF m 7 #[.val (.ref a), .val (.ref b), .unset] []))
  refine own_to (fun _ kont => XS.aloadN X0.here hx rfl (hb hby d9_7) rfl rfl kont) ?_
  show own_Ends _ _ _ _ (s₁.setTop (mkF m 8 #[.val (.ref a), .val (.ref b), .unset] [(.ref b)]))
  obtain ⟨T1, X1, e1, st1⟩ := instY X0 hx hZ hown (ow59 hw) e0 (Ins.self E_b) (g := (mkF m 8 #[.val (.ref a), .val (.ref b), .unset] [(.ref b)])) rfl rfl (hb hby d9_8)
  refine own_to st1 ?_
  show own_Ends _ _ _ _ (T1.setTop (mkF m 11 #[.val (.ref a), .val (.ref b), .unset] [(.int 1)]))
  refine own_to (fun _ kont => XS.ifNo X1.here hx rfl (hb hby d9_11) rfl ((if0 _ _).trans (feq (by decide)).1) kont) ?_
  show own_Ends _ _ _ _ (T1.setTop (mkF m 14 #[.val (.ref a), .val (.ref b), .unset] []))
  refine own_to (fun _ kont => XS.aloadN X1.here hx rfl (hb hby d9_14) rfl rfl kont) ?_
  show own_Ends _ _ _ _ (T1.setTop (mkF m 15 #[.val (.ref a), .val (.ref b), .unset] [(.ref b)]))
  obtain ⟨T2, X2, e2, st2⟩ := castY X1 hx hZ hown (ow59 hw) e1 (Ins.self E_b) (g := (mkF m 15 #[.val (.ref a), .val (.ref b), .unset] [(.ref b)])) rfl rfl (hb hby d9_15)
  refine own_to st2 ?_
  show own_Ends _ _ _ _ (T2.setTop (mkF m 18 #[.val (.ref a), .val (.ref b), .unset] [(.ref b)]))
  refine own_to (fun _ kont => XS.astoreN X2.here hx rfl (hb hby d9_18) rfl rfl (l' := #[.val (.ref a), .val (.ref b), .val (.ref b)]) rfl kont) ?_
  show own_Ends _ _ _ _ (T2.setTop (mkF m 19 #[.val (.ref a), .val (.ref b), .val (.ref b)] []))
  obtain ⟨T3, X3, e3, st3⟩ := getS2 X2 hx hZ hown (host := "") (Or.inl (ow14 hw)) Via.refl e2 (S_cs.ext O0.2) (g := (mkF m 19 #[.val (.ref a), .val (.ref b), .val (.ref b)] [])) rfl (hb hby d9_19)
  refine own_to st3 ?_
  show own_Ends _ _ _ _ (T3.setTop (mkF m 22 #[.val (.ref a), .val (.ref b), .val (.ref b)] [(.int cs_)]))
  refine own_to (fun _ kont => XS.ifNo X3.here hx rfl (hb hby d9_22) rfl ((if0 _ _).trans (feq hcs).1) kont) ?_
  show own_Ends _ _ _ _ (T3.setTop (mkF m 25 #[.val (.ref a), .val (.ref b), .val (.ref b)] []))
  refine own_to (fun _ kont => XS.aloadN X3.here hx rfl (hb hby d9_25) rfl rfl kont) ?_
  show own_Ends _ _ _ _ (T3.setTop (mkF m 26 #[.val (.ref a), .val (.ref b), .val (.ref b)] [(.ref a)]))
  obtain ⟨T4, X4, e4, st4⟩ := getF X3 hx hZ hown (host := "") (Or.inl (ow26 hw)) Via.refl e3 F_ca (g := (mkF m 26 #[.val (.ref a), .val (.ref b), .val (.ref b)] [(.ref a)])) rfl rfl (hb hby d9_26)
  refine own_to st4 ?_
  show own_Ends _ _ _ _ (T4.setTop (mkF m 29 #[.val (.ref a), .val (.ref b), .val (.ref b)] [(.int 0)]))
  refine own_to (fun _ kont => XS.aloadN X4.here hx rfl (hb hby d9_29) rfl rfl kont) ?_
  show own_Ends _ _ _ _ (T4.setTop (mkF m 30 #[.val (.ref a), .val (.ref b), .val (.ref b)] [(.ref b), (.int 0)]))
  obtain ⟨T5, X5, e5, st5⟩ := getF X4 hx hZ hown (host := "") (Or.inl (ow26 hw)) Via.refl e4 F_cb (g := (mkF m 30 #[.val (.ref a), .val (.ref b), .val (.ref b)] [(.ref b), (.int (0 : Int32))])) rfl rfl (hb hby d9_30)
  refine own_to st5 ?_
  show own_Ends _ _ _ _ (T5.setTop (mkF m 33 #[.val (.ref a), .val (.ref b), .val (.ref b)] [(.int 0), (.int 0)]))
  refine own_to (fun _ kont => XS.icmpNo X5.here hx rfl (hb hby d9_33) rfl (teq (by decide)).2 kont) ?_
  show own_Ends _ _ _ _ (T5.setTop (mkF m 36 #[.val (.ref a), .val (.ref b), .val (.ref b)] []))
  refine own_to (fun _ kont => XS.aloadN X5.here hx rfl (hb hby d9_36) rfl rfl kont) ?_
  show own_Ends _ _ _ _ (T5.setTop (mkF m 37 #[.val (.ref a), .val (.ref b), .val (.ref b)] [(.ref a)]))
  obtain ⟨T6, X6, e6, st6⟩ := getF X5 hx hZ hown (host := "") (Or.inl (ow28 hw)) Via.refl e5 F_va (g := (mkF m 37 #[.val (.ref a), .val (.ref b), .val (.ref b)] [(.ref a)])) rfl rfl (hb hby d9_37)
  refine own_to st6 ?_
  show own_Ends _ _ _ _ (T6.setTop (mkF m 40 #[.val (.ref a), .val (.ref b), .val (.ref b)] [(.ref va)]))
  refine own_to (fun _ kont => XS.aloadN X6.here hx rfl (hb hby d9_40) rfl rfl kont) ?_
  show own_Ends _ _ _ _ (T6.setTop (mkF m 41 #[.val (.ref a), .val (.ref b), .val (.ref b)] [(.ref b), (.ref va)]))
  obtain ⟨T7, X7, e7, st7⟩ := getF X6 hx hZ hown (host := "") (Or.inl (ow28 hw)) Via.refl e6 F_vb (g := (mkF m 41 #[.val (.ref a), .val (.ref b), .val (.ref b)] [(.ref b), (.ref va)])) rfl rfl (hb hby d9_41)
  refine own_to st7 ?_
  show own_Ends _ _ _ _ (T7.setTop (mkF m 44 #[.val (.ref a), .val (.ref b), .val (.ref b)] [(.ref vb), (.ref va)]))
  obtain ⟨_, _, ⟨T8, L8, k8, n8⟩, -, X8, ⟨Lc8, hQ8, l8, y8, z8⟩, st8⟩ := Jvm.LawKit.callS X7 hx (y := oM5) hown (mvT hZ (ow60 hw)) (mvT hZ (ow61 hw)) (mvT hZ (ow62 hw)) (mvT hZ (ow63 hw)) (by decide) (backOf (W := 0) (leqBB l Z a0 hw [] va vb ka kb h0 n0 O0 V_x V_y) hZ (ow63 hw) (ow62 hw) (by decide) (by decide)) (g := (mkF m 44 #[.val (.ref a), .val (.ref b), .val (.ref b)] [(.ref vb), (.ref va)])) rfl (by rw [hml]; rfl) (argsL := [(.ref va), (.ref vb)]) (rest := []) (lenOf pd_4 rfl) rfl (by show 2 * 0 + _ ≤ _; exact Nat.le_of_eq rfl) (hb hby d9_44) (fun _ _ => ⟨rfl, e7, (own_le rfl), (own_le rfl)⟩)
  dsimp only [Pt.U, Pt.locs, Pt.cells, Pt.slots] at X8 l8 y8 z8 st8 hQ8
  subst l8 y8 z8
  obtain ⟨rfl, N8q, E8⟩ := hQ8
  have N8 := Fr.app N0 N8q
  refine own_to st8 ?_
  show own_Ends _ _ _ _ (T8.setTop (mkF m 47 #[.val (.ref a), .val (.ref b), .val (.ref b)] [(.int 1)]))
  refine own_to (fun _ kont => XS.ifNo X8.here hx rfl (hb hby d9_47) rfl ((if0 _ _).trans (feq (by decide)).1) kont) ?_
  show own_Ends _ _ _ _ (T8.setTop (mkF m 50 #[.val (.ref a), .val (.ref b), .val (.ref b)] []))
  refine own_to (fun _ kont => XS.iconst X8.here hx rfl (hb hby d9_50) kont) ?_
  show own_Ends _ _ _ _ (T8.setTop (mkF m 51 #[.val (.ref a), .val (.ref b), .val (.ref b)] [(.int 1)]))
  refine own_to (fun _ kont => XS.goto X8.here hx rfl (pc0 := 51) (pc' := 55) rfl (hb hby d9_51) (by decide) (by decide) kont) ?_
  show own_Ends _ _ _ _ (T8.setTop (mkF m 55 #[.val (.ref a), .val (.ref b), .val (.ref b)] [(.int 1)]))
  refine own_leave X8 (v := some (.int (1 : Int32))) (fun h => by rw [Bd.returns] at h; cases h) ?_ (by decide) (by decide) (fun fs hr => retN X8 hx (t := .boolean) Bd.returns (by simp) (hb hby d9_55) hr)
  show Q_seqBB Z a b va vb ka kb cs_ h0 n0 _ T8.heap _
  rw [E8]
  exact ⟨rfl, N8, rfl⟩
theorem d8_0 : decode prog_10_method_1_code 0 = .ok (.getstatic 10, 3) := by decide +kernel
theorem d8_3 : decode prog_10_method_1_code 3 = .ok (.invokevirtual 14, 3) := by decide +kernel
theorem d8_6 : decode prog_10_method_1_code 6 = .ok (.checkcast 15, 3) := by decide +kernel
theorem d8_9 : decode prog_10_method_1_code 9 = .ok (.areturn, 1) := by decide +kernel
theorem pn_8 : plainName "com/example/ship_shore_exchange/shipshoreexchange/model/Role" = true := by first | (simp [plainName, overriddenIn]; done) | decide +kernel
theorem ef_rmV (m : MethodId)  : entryFrame m #[] 0 = mkF m 0 #[] [] := by first | (simp [entryFrame, mkF, argsToLocals, Value.category]; done) | rfl | (rcases ref_cases hrf with rfl | ⟨q, rfl⟩ <;> rfl)
def Q_rmV (Z : State)  (c0 : Addr) (c1 : Addr) (vs_ : Addr) (kv_ : ClassId) (h0 : Heap) (n0 : Nat) (v : Option Value) (h : Heap) (L : List Loc) : Prop := ∃ b : Addr, v = some (.ref b) ∧ n0 ≤ b ∧ h0.size ≤ b ∧ Fr n0 L ∧ Old Z n0 h ∧ Keep h0 h [] ∧ Arv Z h b kv_ (.object "com/example/ship_shore_exchange/shipshoreexchange/model/Role") (2 : Int32) [(.ref c0), (.ref c1)] .null
set_option maxRecDepth 65536 in
set_option maxHeartbeats 40000000 in
theorem rmV (l : Launch) (Z : State) (a0 : Array Value) (hw : ∀ d ∈ tables_1, d.before a0 Z = true) (ws : List Jvm.Cond)  (c0 : Addr) (c1 : Addr) (vs_ : Addr) (kv_ : ClassId) (h0 : Heap) (n0 : Nat) (O0 : Old Z n0 h0) (S_vs : Sta Z Z.heap "com/example/ship_shore_exchange/shipshoreexchange/model/Role" "$VALUES" "[Lcom/example/ship_shore_exchange/shipshoreexchange/model/Role;" (.ref vs_)) (V_vs : Arv Z Z.heap vs_ kv_ (.object "com/example/ship_shore_exchange/shipshoreexchange/model/Role") (2 : Int32) [(.ref c0), (.ref c1)] .null) (E_vs : Exa Z Z.heap vs_ "[Lcom/example/ship_shore_exchange/shipshoreexchange/model/Role;") :
    MetFree l oM7 (head1 (Jvm.Cond.code oM7 prog_10_method_1_code 0 (some (.array (.object "com/example/ship_shore_exchange/shipshoreexchange/model/Role"))) :: ws) ({ frames := 1, cells := 1, slots := 2, locals := 14 } : Room)) (fun aq_ U => aq_ = #[] ∧ Z.Warmed39 U.vm ∧ U.heap = h0) (fun _ _ _ _ _ => True) (fun _ U o U' => ∃ v L, o = .returned v ∧ Q_rmV Z c0 c1 vs_ kv_ h0 n0 v U'.heap L ∧ FrameEnd U o U' L ({ frames := 1, cells := 1, slots := 2, locals := 14 } : Room).cells ({ frames := 1, cells := 1, slots := 2, locals := 14 } : Room).slots) := by
  refine MetFree.of_bodySF (plainFor_of_name pn_8) hisR ?_
  intro p e s m args below meth c s₁ Bd hml0 hP hK
  obtain ⟨rfl, hZ, hh⟩ := hP
  have hx := Bd.exec
  have hby := Bd.bytes
  have hml : c.maxLocals = 0 := hml0
  have hown : s.vm.findClass "com/example/ship_shore_exchange/shipshoreexchange/model/Role" = some m.cls := findClass_of_methodNamed Bd.named
  have hnm := (name_of_methodNamed Bd.named Bd.method).1
  have X0 : Stand p l e ({ frames := 1, cells := 1, slots := 2, locals := 14 } : Room) s m #[] below meth c s₁ [] 0 0 := Stand.of_body Bd
  have e0 : s₁.heap = h0 := by rw [← hh, Bd.state]; rfl
  have N0 := Fr.nil n0
  show own_Ends p.tables e below (own_P s (Q_rmV Z c0 c1 vs_ kv_ h0 n0) ({ frames := 1, cells := 1, slots := 2, locals := 14 } : Room).cells ({ frames := 1, cells := 1, slots := 2, locals := 14 } : Room).slots) _
  refine own_cast (ef_rmV m ) ?_
  have K0 := Keep.refl h0 []
  show own_Ends _ _ _ _ (s₁.setTop (mkF m 0 #[] []))
  obtain ⟨T1, X1, e1, st1⟩ := getS2 X0 hx hZ hown (host := "") (Or.inl (ow39 hw)) Via.refl e0 (S_vs.ext O0.2) (g := (mkF m 0 #[] [])) rfl (hb hby d8_0)
  refine own_to st1 ?_
  show own_Ends _ _ _ _ (T1.setTop (mkF m 3 #[] [(.ref vs_)]))
  obtain ⟨T2, h2, X2, e2, E2, V2, A2, st2⟩ := cloneH X1 hx hZ hown (ow41 hw) (ow42 hw) (ow46 hw) (ow44 hw) (ow45 hw) (ow47 hw) e1 (Arv.arh (V_vs.ext O0.2)) (E_vs.ext O0.2) (g := (mkF m 3 #[] [(.ref vs_)])) rfl (by rw [hml]; rfl) rfl (hb hby d8_3) (by decide) (W := 0) (cap := 2) (by show 2 * 0 + _ ≤ _; exact Nat.le_of_eq rfl) (by decide) (by decide) (by decide) (by decide)
  obtain ⟨b2, g2⟩ : ∃ z, z = h0.size := ⟨_, rfl⟩
  rw [← g2] at A2 V2 st2
  have g_b2 : n0 ≤ b2 := Nat.le_trans (own_old_le O0) (Nat.le_of_eq g2.symm)
  have sz_b2 : h0.size ≤ b2 := Nat.le_trans K0.1 (Nat.le_of_eq g2.symm)
  refine own_to st2 ?_
  have O2 := O0.ext E2
  have K2 := K0.ext E2
  have Vc2 : Arv Z h2 b2 kv_ (.object "com/example/ship_shore_exchange/shipshoreexchange/model/Role") (2 : Int32) [(.ref c0), (.ref c1)] .null := V2
  show own_Ends _ _ _ _ (T2.setTop (mkF m 6 #[] [(.ref b2)]))
  obtain ⟨T3, X3, e3, st3⟩ := castY X2 hx hZ hown (ow50 hw) e2 (Ins.self A2) (g := (mkF m 6 #[] [(.ref b2)])) rfl rfl (hb hby d8_6)
  refine own_to st3 ?_
  show own_Ends _ _ _ _ (T3.setTop (mkF m 9 #[] [(.ref b2)]))
  refine own_leave X3 (v := some (.ref b2)) (fun h => by rw [Bd.returns] at h; cases h) ?_ (by decide) (by decide) (fun fs hr => retOut X3 hx Bd.returns rfl (Or.inr (Or.inr (Or.inr (Or.inr ⟨rfl, rfl, rfl⟩)))) (hb hby d8_9) hr)
  show Q_rmV Z c0 c1 vs_ kv_ h0 n0 _ T3.heap _
  rw [e3]
  exact ⟨b2, rfl, g_b2, sz_b2, N0, O2, K2, Vc2⟩
theorem d7_0 : decode prog_10_method_5_code 0 = .ok (.invokestatic 33, 3) := by decide +kernel
theorem d7_3 : decode prog_10_method_5_code 3 = .ok (.astore_n 1, 1) := by decide +kernel
theorem d7_4 : decode prog_10_method_5_code 4 = .ok (.aload_n 1, 1) := by decide +kernel
theorem d7_5 : decode prog_10_method_5_code 5 = .ok (.arraylength, 1) := by decide +kernel
theorem d7_6 : decode prog_10_method_5_code 6 = .ok (.istore_n 2, 1) := by decide +kernel
theorem d7_7 : decode prog_10_method_5_code 7 = .ok (.iconst 0, 1) := by decide +kernel
theorem d7_8 : decode prog_10_method_5_code 8 = .ok (.istore_n 3, 1) := by decide +kernel
theorem d7_9 : decode prog_10_method_5_code 9 = .ok (.iload_n 3, 1) := by decide +kernel
theorem d7_10 : decode prog_10_method_5_code 10 = .ok (.iload_n 2, 1) := by decide +kernel
theorem d7_11 : decode prog_10_method_5_code 11 = .ok (.if_icmp .ge 29, 3) := by decide +kernel
theorem d7_14 : decode prog_10_method_5_code 14 = .ok (.aload_n 1, 1) := by decide +kernel
theorem d7_15 : decode prog_10_method_5_code 15 = .ok (.iload_n 3, 1) := by decide +kernel
theorem d7_16 : decode prog_10_method_5_code 16 = .ok (.aaload, 1) := by decide +kernel
theorem d7_17 : decode prog_10_method_5_code 17 = .ok (.astore 4, 2) := by decide +kernel
theorem d7_19 : decode prog_10_method_5_code 19 = .ok (.aload 4, 2) := by decide +kernel
theorem d7_21 : decode prog_10_method_5_code 21 = .ok (.getfield 29, 3) := by decide +kernel
theorem d7_24 : decode prog_10_method_5_code 24 = .ok (.aload_n 0, 1) := by decide +kernel
theorem d7_25 : decode prog_10_method_5_code 25 = .ok (.invokevirtual 37, 3) := by decide +kernel
theorem d7_28 : decode prog_10_method_5_code 28 = .ok (.ifCond .eq 6, 3) := by decide +kernel
theorem d7_31 : decode prog_10_method_5_code 31 = .ok (.aload 4, 2) := by decide +kernel
theorem d7_33 : decode prog_10_method_5_code 33 = .ok (.areturn, 1) := by decide +kernel
theorem pn_7 : plainName "com/example/ship_shore_exchange/shipshoreexchange/model/Role" = true := by first | (simp [plainName, overriddenIn]; done) | decide +kernel
theorem pd_5 : parseMethodDescriptor "()[Lcom/example/ship_shore_exchange/shipshoreexchange/model/Role;" = some ⟨[], some (.array (.object "com/example/ship_shore_exchange/shipshoreexchange/model/Role"))⟩ := by decide +kernel
theorem pd_6 : parseMethodDescriptor "(Ljava/lang/Object;)Z" = some ⟨[(.object "java/lang/Object")], some .boolean⟩ := by decide +kernel
theorem ef_rmFA (m : MethodId) (s_ : Addr) : entryFrame m #[(.ref s_)] 5 = mkF m 0 #[.val (.ref s_), .unset, .unset, .unset, .unset] [] := by first | (simp [entryFrame, mkF, argsToLocals, Value.category]; done) | rfl | (rcases ref_cases hrf with rfl | ⟨q, rfl⟩ <;> rfl)
def Q_rmFA (Z : State) (s_ : Addr) (c0 : Addr) (c1 : Addr) (vs_ : Addr) (kv_ : ClassId) (t0 : Addr) (t1 : Addr) (v0 : Addr) (v1 : Addr) (k0_ : ClassId) (k1_ : ClassId) (vb : Addr) (kb : ClassId) (cs_ : Int32) (h0 : Heap) (n0 : Nat) (v : Option Value) (h : Heap) (L : List Loc) : Prop := v = some (.ref c0) ∧ Fr n0 L ∧ Old Z n0 h ∧ Keep h0 h []
set_option maxRecDepth 65536 in
set_option maxHeartbeats 40000000 in
theorem rmFA (l : Launch) (Z : State) (a0 : Array Value) (hw : ∀ d ∈ tables_1, d.before a0 Z = true) (ws : List Jvm.Cond) (s_ : Addr) (c0 : Addr) (c1 : Addr) (vs_ : Addr) (kv_ : ClassId) (t0 : Addr) (t1 : Addr) (v0 : Addr) (v1 : Addr) (k0_ : ClassId) (k1_ : ClassId) (vb : Addr) (kb : ClassId) (cs_ : Int32) (h0 : Heap) (n0 : Nat) (O0 : Old Z n0 h0) (S_vs : Sta Z Z.heap "com/example/ship_shore_exchange/shipshoreexchange/model/Role" "$VALUES" "[Lcom/example/ship_shore_exchange/shipshoreexchange/model/Role;" (.ref vs_)) (V_vs : Arv Z Z.heap vs_ kv_ (.object "com/example/ship_shore_exchange/shipshoreexchange/model/Role") (2 : Int32) [(.ref c0), (.ref c1)] .null) (E_vs : Exa Z Z.heap vs_ "[Lcom/example/ship_shore_exchange/shipshoreexchange/model/Role;") (F_t0 : Fld Z Z.heap c0 "com/example/ship_shore_exchange/shipshoreexchange/model/Role" "text" "Ljava/lang/String;" (.ref t0)) (E_t0 : Exa Z Z.heap t0 "java/lang/String") (F_c0 : Fld Z Z.heap t0 "java/lang/String" "coder" "B" (.int (0 : Int32))) (F_v0 : Fld Z Z.heap t0 "java/lang/String" "value" "[B" (.ref v0)) (V_v0 : Arv Z Z.heap v0 k0_ .byte (3 : Int32) [(.int (109 : Int32)), (.int (115 : Int32)), (.int (105 : Int32))] (.int (0 : Int32))) (F_t1 : Fld Z Z.heap c1 "com/example/ship_shore_exchange/shipshoreexchange/model/Role" "text" "Ljava/lang/String;" (.ref t1)) (E_t1 : Exa Z Z.heap t1 "java/lang/String") (F_c1 : Fld Z Z.heap t1 "java/lang/String" "coder" "B" (.int (0 : Int32))) (F_v1 : Fld Z Z.heap t1 "java/lang/String" "value" "[B" (.ref v1)) (V_v1 : Arv Z Z.heap v1 k1_ .byte (8 : Int32) [(.int (114 : Int32)), (.int (101 : Int32)), (.int (103 : Int32)), (.int (105 : Int32)), (.int (115 : Int32)), (.int (116 : Int32)), (.int (114 : Int32)), (.int (121 : Int32))] (.int (0 : Int32))) (S_cs : Sta Z Z.heap "java/lang/String" "COMPACT_STRINGS" "Z" (.int cs_)) (hcs : ¬ cs_ = (0 : Int32)) (ne_t0 : ¬ t0 = s_) (ne_t1 : ¬ t1 = s_) (E_s : Exa Z h0 s_ "java/lang/String") (F_vs : Fld Z h0 s_ "java/lang/String" "value" "[B" (.ref vb)) (F_cs : Fld Z h0 s_ "java/lang/String" "coder" "B" (.int (0 : Int32))) (V_y : Arv Z h0 vb kb .byte (3 : Int32) [(.int (109 : Int32)), (.int (115 : Int32)), (.int (105 : Int32))] (.int (0 : Int32))) :
    MetFree l oM8 (head1 (Jvm.Cond.code oM8 prog_10_method_5_code 5 (some (.object "com/example/ship_shore_exchange/shipshoreexchange/model/Role")) :: ws) ({ frames := 2, cells := 1, slots := 2, locals := 60 } : Room)) (fun aq_ U => aq_ = #[(.ref s_)] ∧ Z.Warmed39 U.vm ∧ U.heap = h0) (fun _ _ _ _ _ => True) (fun _ U o U' => ∃ v L, o = .returned v ∧ Q_rmFA Z s_ c0 c1 vs_ kv_ t0 t1 v0 v1 k0_ k1_ vb kb cs_ h0 n0 v U'.heap L ∧ FrameEnd U o U' L ({ frames := 2, cells := 1, slots := 2, locals := 60 } : Room).cells ({ frames := 2, cells := 1, slots := 2, locals := 60 } : Room).slots) := by
  refine MetFree.of_bodySF (plainFor_of_name pn_7) hisR ?_
  intro p e s m args below meth c s₁ Bd hml0 hP hK
  obtain ⟨rfl, hZ, hh⟩ := hP
  have hx := Bd.exec
  have hby := Bd.bytes
  have hml : c.maxLocals = 5 := hml0
  have hown : s.vm.findClass "com/example/ship_shore_exchange/shipshoreexchange/model/Role" = some m.cls := findClass_of_methodNamed Bd.named
  have hnm := (name_of_methodNamed Bd.named Bd.method).1
  have X0 : Stand p l e ({ frames := 2, cells := 1, slots := 2, locals := 60 } : Room) s m #[(.ref s_)] below meth c s₁ [] 0 0 := Stand.of_body Bd
  have e0 : s₁.heap = h0 := by rw [← hh, Bd.state]; rfl
  have N0 := Fr.nil n0
  show own_Ends p.tables e below (own_P s (Q_rmFA Z s_ c0 c1 vs_ kv_ t0 t1 v0 v1 k0_ k1_ vb kb cs_ h0 n0) ({ frames := 2, cells := 1, slots := 2, locals := 60 } : Room).cells ({ frames := 2, cells := 1, slots := 2, locals := 60 } : Room).slots) _
  refine own_cast (ef_rmFA m s_) ?_
  have K0 := Keep.refl h0 []
  show own_Ends _ _ _ _ (s₁.setTop (mkF m 0 #[.val (.ref s_), .unset, .unset, .unset, .unset] []))
  obtain ⟨_, _, ⟨T1, L1, k1, n1⟩, -, X1, ⟨Lc1, hQ1, l1, y1, z1⟩, st1⟩ := Jvm.LawKit.callS X0 hx (y := oM7) hown (mvT hZ (ow36 hw)) (mvT hZ (ow37 hw)) (mvT hZ (ow31 hw)) (mvT hZ (ow38 hw)) (by decide) (backOf (W := 0) (rmV l Z a0 hw []  c0 c1 vs_ kv_ h0 n0 O0 S_vs V_vs E_vs) hZ (ow38 hw) (ow31 hw) (by decide) (by decide)) (g := (mkF m 0 #[.val (.ref s_), .unset, .unset, .unset, .unset] [])) rfl (by rw [hml]; rfl) (argsL := []) (rest := []) (lenOf pd_5 rfl) rfl (by show 2 * 0 + _ ≤ _; exact Nat.le_of_eq rfl) (hb hby d7_0) (fun _ _ => ⟨rfl, e0, (own_le rfl), (own_le rfl)⟩)
  dsimp only [Pt.U, Pt.locs, Pt.cells, Pt.slots] at X1 l1 y1 z1 st1 hQ1
  subst l1 y1 z1
  obtain ⟨u1, rfl, g_u1, sq_u1, N1q, Oq1, Kq1, Vx1⟩ := hQ1
  have N1 := Fr.app N0 N1q
  have KK1 := K0.trans Kq1 all0
  refine own_to st1 ?_
  show own_Ends _ _ _ _ (T1.setTop (mkF m 3 #[.val (.ref s_), .unset, .unset, .unset, .unset] [(.ref u1)]))
  refine own_to (fun _ kont => XS.astoreN X1.here hx rfl (hb hby d7_3) rfl rfl (l' := #[.val (.ref s_), .val (.ref u1), .unset, .unset, .unset]) rfl kont) ?_
  show own_Ends _ _ _ _ (T1.setTop (mkF m 4 #[.val (.ref s_), .val (.ref u1), .unset, .unset, .unset] []))
  refine own_to (fun _ kont => XS.aloadN X1.here hx rfl (hb hby d7_4) rfl rfl kont) ?_
  show own_Ends _ _ _ _ (T1.setTop (mkF m 5 #[.val (.ref s_), .val (.ref u1), .unset, .unset, .unset] [(.ref u1)]))
  obtain ⟨cl2, Ar2, q2, S2, M2, -, -⟩ := id Vx1
  refine own_to (fun _ kont => X1.arraylength hx Ar2.1 (State.isArrayOf_alike hZ.alike Ar2.2.1) (g := (mkF m 5 #[.val (.ref s_), .val (.ref u1), .unset, .unset, .unset] [(.ref u1)])) rfl rfl (hb hby d7_5) _ kont) ?_
  rw [len_of S2 M2]
  show own_Ends _ _ _ _ (T1.setTop (mkF m 6 #[.val (.ref s_), .val (.ref u1), .unset, .unset, .unset] [(.int 2)]))
  refine own_to (fun _ kont => XS.istoreN X1.here hx rfl (hb hby d7_6) rfl (l' := #[.val (.ref s_), .val (.ref u1), .val (.int (2 : Int32)), .unset, .unset]) rfl kont) ?_
  show own_Ends _ _ _ _ (T1.setTop (mkF m 7 #[.val (.ref s_), .val (.ref u1), .val (.int 2), .unset, .unset] []))
  refine own_to (fun _ kont => XS.iconst X1.here hx rfl (hb hby d7_7) kont) ?_
  show own_Ends _ _ _ _ (T1.setTop (mkF m 8 #[.val (.ref s_), .val (.ref u1), .val (.int 2), .unset, .unset] [(.int 0)]))
  refine own_to (fun _ kont => XS.istoreN X1.here hx rfl (hb hby d7_8) rfl (l' := #[.val (.ref s_), .val (.ref u1), .val (.int (2 : Int32)), .val (.int (0 : Int32)), .unset]) rfl kont) ?_
  show own_Ends _ _ _ _ (T1.setTop (mkF m 9 #[.val (.ref s_), .val (.ref u1), .val (.int 2), .val (.int 0), .unset] []))
  refine own_to (fun _ kont => XS.iloadN X1.here hx rfl (hb hby d7_9) rfl kont) ?_
  show own_Ends _ _ _ _ (T1.setTop (mkF m 10 #[.val (.ref s_), .val (.ref u1), .val (.int 2), .val (.int 0), .unset] [(.int 0)]))
  refine own_to (fun _ kont => XS.iloadN X1.here hx rfl (hb hby d7_10) rfl kont) ?_
  show own_Ends _ _ _ _ (T1.setTop (mkF m 11 #[.val (.ref s_), .val (.ref u1), .val (.int 2), .val (.int 0), .unset] [(.int 2), (.int 0)]))
  refine own_to (fun _ kont => XS.icmpNo X1.here hx rfl (hb hby d7_11) rfl (tlt (by decide)).2.1 kont) ?_
  show own_Ends _ _ _ _ (T1.setTop (mkF m 14 #[.val (.ref s_), .val (.ref u1), .val (.int 2), .val (.int 0), .unset] []))
  refine own_to (fun _ kont => XS.aloadN X1.here hx rfl (hb hby d7_14) rfl rfl kont) ?_
  show own_Ends _ _ _ _ (T1.setTop (mkF m 15 #[.val (.ref s_), .val (.ref u1), .val (.int 2), .val (.int 0), .unset] [(.ref u1)]))
  refine own_to (fun _ kont => XS.iloadN X1.here hx rfl (hb hby d7_15) rfl kont) ?_
  show own_Ends _ _ _ _ (T1.setTop (mkF m 16 #[.val (.ref s_), .val (.ref u1), .val (.int 2), .val (.int 0), .unset] [(.int 0), (.ref u1)]))
  obtain ⟨cl3, Ar3, q3, S3, M3, H3, G3⟩ := id Vx1
  have hin3 : ¬ ((0 : Int32) < 0 ∨ cl3.slots.size ≤ ((0 : Int32)).toNatClampNeg) := inb_of S3 ⟨by decide, by decide⟩
  have hat3 : cl3.slots[((0 : Int32)).toNatClampNeg]? = some (.ref c0) := Has.at H3 hin3 rfl
  refine own_to (fun _ kont => X1.aaload hx (j := (0 : Int32)) (v := (.ref c0)) Ar3.1 (State.isArrayOf_alike hZ.alike Ar3.2.1) rfl Ar3.2.2 hin3 hat3 (g := (mkF m 16 #[.val (.ref s_), .val (.ref u1), .val (.int (2 : Int32)), .val (.int (0 : Int32)), .unset] [(.int (0 : Int32)), (.ref u1)])) rfl rfl (hb hby d7_16) _ kont) ?_
  show own_Ends _ _ _ _ (T1.setTop (mkF m 17 #[.val (.ref s_), .val (.ref u1), .val (.int 2), .val (.int 0), .unset] [(.ref c0)]))
  refine own_to (fun _ kont => XS.astore X1.here hx rfl (hb hby d7_17) rfl rfl (l' := #[.val (.ref s_), .val (.ref u1), .val (.int (2 : Int32)), .val (.int (0 : Int32)), .val (.ref c0)]) rfl kont) ?_
  show own_Ends _ _ _ _ (T1.setTop (mkF m 19 #[.val (.ref s_), .val (.ref u1), .val (.int 2), .val (.int 0), .val (.ref c0)] []))
  refine own_to (fun _ kont => XS.aload X1.here hx rfl (hb hby d7_19) rfl rfl kont) ?_
  show own_Ends _ _ _ _ (T1.setTop (mkF m 21 #[.val (.ref s_), .val (.ref u1), .val (.int 2), .val (.int 0), .val (.ref c0)] [(.ref c0)]))
  obtain ⟨T4, X4, e4, st4⟩ := getF X1 hx hZ hown (host := "") (Or.inl (ow52 hw)) Via.refl rfl (F_t0.ext Oq1.2) (g := (mkF m 21 #[.val (.ref s_), .val (.ref u1), .val (.int (2 : Int32)), .val (.int (0 : Int32)), .val (.ref c0)] [(.ref c0)])) rfl rfl (hb hby d7_21)
  refine own_to st4 ?_
  show own_Ends _ _ _ _ (T4.setTop (mkF m 24 #[.val (.ref s_), .val (.ref u1), .val (.int 2), .val (.int 0), .val (.ref c0)] [(.ref t0)]))
  refine own_to (fun _ kont => XS.aloadN X4.here hx rfl (hb hby d7_24) rfl rfl kont) ?_
  show own_Ends _ _ _ _ (T4.setTop (mkF m 25 #[.val (.ref s_), .val (.ref u1), .val (.int 2), .val (.int 0), .val (.ref c0)] [(.ref s_), (.ref t0)]))
  obtain ⟨cq5, kq5, q5a, q5b, q5c⟩ := isOf hZ e4 (E_t0.ext Oq1.2)
  obtain ⟨_, _, ⟨T5, L5, k5, n5⟩, -, X5, ⟨Lc5, hQ5, l5, y5, z5⟩, st5⟩ := X4.virtualBack hx (y := oM6) (z := oM6) hown (mvT hZ (ow54 hw)) (mvT hZ (ow55 hw)) (notFace_of_selects (args := #[]) (mvT hZ (ow57 hw))) (mvT hZ (ow57 hw)) (mvT hZ (ow56 hw)) (by decide) (backOf (W := 0) (seqAA l Z a0 hw [] t0 s_ v0 vb k0_ kb cs_ T1.heap n0 Oq1 ne_t0 (E_s.keep Kq1) (F_v0.ext Oq1.2) (F_vs.keep Kq1 nin0) (F_c0.ext Oq1.2) (F_cs.keep Kq1 nin0) (V_v0.ext Oq1.2) (V_y.keep Kq1 nin0) S_cs hcs) hZ (ow58 hw) (ow3 hw) (by decide) (by decide)) q5a q5c (g := (mkF m 25 #[.val (.ref s_), .val (.ref u1), .val (.int (2 : Int32)), .val (.int (0 : Int32)), .val (.ref c0)] [(.ref s_), (.ref t0)])) rfl (by rw [hml]; rfl) (Steps.refl _) (argsL := [(.ref s_)]) (rest := []) (lenOf pd_6 rfl) rfl (by show 2 * 0 + _ ≤ _; exact Nat.le_of_eq rfl) (hb hby d7_25) (fun _ _ => ⟨rfl, e4, (own_le rfl), (own_le rfl)⟩)
  dsimp only [Pt.U, Pt.locs, Pt.cells, Pt.slots] at X5 l5 y5 z5 st5 hQ5
  subst l5 y5 z5
  obtain ⟨rfl, N5q, E5⟩ := hQ5
  have N5 := Fr.app N1 N5q
  refine own_tr st5 ?_
  show own_Ends _ _ _ _ (T5.setTop (mkF m 28 #[.val (.ref s_), .val (.ref u1), .val (.int 2), .val (.int 0), .val (.ref c0)] [(.int 1)]))
  refine own_to (fun _ kont => XS.ifNo X5.here hx rfl (hb hby d7_28) rfl ((if0 _ _).trans (feq (by decide)).1) kont) ?_
  show own_Ends _ _ _ _ (T5.setTop (mkF m 31 #[.val (.ref s_), .val (.ref u1), .val (.int 2), .val (.int 0), .val (.ref c0)] []))
  refine own_to (fun _ kont => XS.aload X5.here hx rfl (hb hby d7_31) rfl rfl kont) ?_
  show own_Ends _ _ _ _ (T5.setTop (mkF m 33 #[.val (.ref s_), .val (.ref u1), .val (.int 2), .val (.int 0), .val (.ref c0)] [(.ref c0)]))
  refine own_leave X5 (v := some (.ref c0)) (fun h => by rw [Bd.returns] at h; cases h) ?_ (by decide) (by decide) (fun fs hr => retOut X5 hx Bd.returns rfl (Or.inr (Or.inr (Or.inr (Or.inr ⟨rfl, rfl, rfl⟩)))) (hb hby d7_33) hr)
  show Q_rmFA Z s_ c0 c1 vs_ kv_ t0 t1 v0 v1 k0_ k1_ vb kb cs_ h0 n0 _ T5.heap _
  rw [E5]
  exact ⟨rfl, N5, Oq1, KK1⟩
theorem d7_34 : decode prog_10_method_5_code 34 = .ok (.iinc 3 1, 3) := by decide +kernel
theorem d7_37 : decode prog_10_method_5_code 37 = .ok (.goto (-28), 3) := by decide +kernel
theorem ef_rmFB (m : MethodId) (s_ : Addr) : entryFrame m #[(.ref s_)] 5 = mkF m 0 #[.val (.ref s_), .unset, .unset, .unset, .unset] [] := by first | (simp [entryFrame, mkF, argsToLocals, Value.category]; done) | rfl | (rcases ref_cases hrf with rfl | ⟨q, rfl⟩ <;> rfl)
def Q_rmFB (Z : State) (s_ : Addr) (c0 : Addr) (c1 : Addr) (vs_ : Addr) (kv_ : ClassId) (t0 : Addr) (t1 : Addr) (v0 : Addr) (v1 : Addr) (k0_ : ClassId) (k1_ : ClassId) (vb : Addr) (kb : ClassId) (cs_ : Int32) (h0 : Heap) (n0 : Nat) (v : Option Value) (h : Heap) (L : List Loc) : Prop := v = some (.ref c1) ∧ Fr n0 L ∧ Old Z n0 h ∧ Keep h0 h []
set_option maxRecDepth 65536 in
set_option maxHeartbeats 40000000 in
theorem rmFB (l : Launch) (Z : State) (a0 : Array Value) (hw : ∀ d ∈ tables_1, d.before a0 Z = true) (ws : List Jvm.Cond) (s_ : Addr) (c0 : Addr) (c1 : Addr) (vs_ : Addr) (kv_ : ClassId) (t0 : Addr) (t1 : Addr) (v0 : Addr) (v1 : Addr) (k0_ : ClassId) (k1_ : ClassId) (vb : Addr) (kb : ClassId) (cs_ : Int32) (h0 : Heap) (n0 : Nat) (O0 : Old Z n0 h0) (S_vs : Sta Z Z.heap "com/example/ship_shore_exchange/shipshoreexchange/model/Role" "$VALUES" "[Lcom/example/ship_shore_exchange/shipshoreexchange/model/Role;" (.ref vs_)) (V_vs : Arv Z Z.heap vs_ kv_ (.object "com/example/ship_shore_exchange/shipshoreexchange/model/Role") (2 : Int32) [(.ref c0), (.ref c1)] .null) (E_vs : Exa Z Z.heap vs_ "[Lcom/example/ship_shore_exchange/shipshoreexchange/model/Role;") (F_t0 : Fld Z Z.heap c0 "com/example/ship_shore_exchange/shipshoreexchange/model/Role" "text" "Ljava/lang/String;" (.ref t0)) (E_t0 : Exa Z Z.heap t0 "java/lang/String") (F_c0 : Fld Z Z.heap t0 "java/lang/String" "coder" "B" (.int (0 : Int32))) (F_v0 : Fld Z Z.heap t0 "java/lang/String" "value" "[B" (.ref v0)) (V_v0 : Arv Z Z.heap v0 k0_ .byte (3 : Int32) [(.int (109 : Int32)), (.int (115 : Int32)), (.int (105 : Int32))] (.int (0 : Int32))) (F_t1 : Fld Z Z.heap c1 "com/example/ship_shore_exchange/shipshoreexchange/model/Role" "text" "Ljava/lang/String;" (.ref t1)) (E_t1 : Exa Z Z.heap t1 "java/lang/String") (F_c1 : Fld Z Z.heap t1 "java/lang/String" "coder" "B" (.int (0 : Int32))) (F_v1 : Fld Z Z.heap t1 "java/lang/String" "value" "[B" (.ref v1)) (V_v1 : Arv Z Z.heap v1 k1_ .byte (8 : Int32) [(.int (114 : Int32)), (.int (101 : Int32)), (.int (103 : Int32)), (.int (105 : Int32)), (.int (115 : Int32)), (.int (116 : Int32)), (.int (114 : Int32)), (.int (121 : Int32))] (.int (0 : Int32))) (S_cs : Sta Z Z.heap "java/lang/String" "COMPACT_STRINGS" "Z" (.int cs_)) (hcs : ¬ cs_ = (0 : Int32)) (ne_t0 : ¬ t0 = s_) (ne_t1 : ¬ t1 = s_) (E_s : Exa Z h0 s_ "java/lang/String") (F_vs : Fld Z h0 s_ "java/lang/String" "value" "[B" (.ref vb)) (F_cs : Fld Z h0 s_ "java/lang/String" "coder" "B" (.int (0 : Int32))) (V_y : Arv Z h0 vb kb .byte (8 : Int32) [(.int (114 : Int32)), (.int (101 : Int32)), (.int (103 : Int32)), (.int (105 : Int32)), (.int (115 : Int32)), (.int (116 : Int32)), (.int (114 : Int32)), (.int (121 : Int32))] (.int (0 : Int32))) :
    MetFree l oM8 (head1 (Jvm.Cond.code oM8 prog_10_method_5_code 5 (some (.object "com/example/ship_shore_exchange/shipshoreexchange/model/Role")) :: ws) ({ frames := 2, cells := 1, slots := 2, locals := 60 } : Room)) (fun aq_ U => aq_ = #[(.ref s_)] ∧ Z.Warmed39 U.vm ∧ U.heap = h0) (fun _ _ _ _ _ => True) (fun _ U o U' => ∃ v L, o = .returned v ∧ Q_rmFB Z s_ c0 c1 vs_ kv_ t0 t1 v0 v1 k0_ k1_ vb kb cs_ h0 n0 v U'.heap L ∧ FrameEnd U o U' L ({ frames := 2, cells := 1, slots := 2, locals := 60 } : Room).cells ({ frames := 2, cells := 1, slots := 2, locals := 60 } : Room).slots) := by
  refine MetFree.of_bodySF (plainFor_of_name pn_7) hisR ?_
  intro p e s m args below meth c s₁ Bd hml0 hP hK
  obtain ⟨rfl, hZ, hh⟩ := hP
  have hx := Bd.exec
  have hby := Bd.bytes
  have hml : c.maxLocals = 5 := hml0
  have hown : s.vm.findClass "com/example/ship_shore_exchange/shipshoreexchange/model/Role" = some m.cls := findClass_of_methodNamed Bd.named
  have hnm := (name_of_methodNamed Bd.named Bd.method).1
  have X0 : Stand p l e ({ frames := 2, cells := 1, slots := 2, locals := 60 } : Room) s m #[(.ref s_)] below meth c s₁ [] 0 0 := Stand.of_body Bd
  have e0 : s₁.heap = h0 := by rw [← hh, Bd.state]; rfl
  have N0 := Fr.nil n0
  show own_Ends p.tables e below (own_P s (Q_rmFB Z s_ c0 c1 vs_ kv_ t0 t1 v0 v1 k0_ k1_ vb kb cs_ h0 n0) ({ frames := 2, cells := 1, slots := 2, locals := 60 } : Room).cells ({ frames := 2, cells := 1, slots := 2, locals := 60 } : Room).slots) _
  refine own_cast (ef_rmFB m s_) ?_
  have K0 := Keep.refl h0 []
  show own_Ends _ _ _ _ (s₁.setTop (mkF m 0 #[.val (.ref s_), .unset, .unset, .unset, .unset] []))
  obtain ⟨_, _, ⟨T1, L1, k1, n1⟩, -, X1, ⟨Lc1, hQ1, l1, y1, z1⟩, st1⟩ := Jvm.LawKit.callS X0 hx (y := oM7) hown (mvT hZ (ow36 hw)) (mvT hZ (ow37 hw)) (mvT hZ (ow31 hw)) (mvT hZ (ow38 hw)) (by decide) (backOf (W := 0) (rmV l Z a0 hw []  c0 c1 vs_ kv_ h0 n0 O0 S_vs V_vs E_vs) hZ (ow38 hw) (ow31 hw) (by decide) (by decide)) (g := (mkF m 0 #[.val (.ref s_), .unset, .unset, .unset, .unset] [])) rfl (by rw [hml]; rfl) (argsL := []) (rest := []) (lenOf pd_5 rfl) rfl (by show 2 * 0 + _ ≤ _; exact Nat.le_of_eq rfl) (hb hby d7_0) (fun _ _ => ⟨rfl, e0, (own_le rfl), (own_le rfl)⟩)
  dsimp only [Pt.U, Pt.locs, Pt.cells, Pt.slots] at X1 l1 y1 z1 st1 hQ1
  subst l1 y1 z1
  obtain ⟨u1, rfl, g_u1, sq_u1, N1q, Oq1, Kq1, Vx1⟩ := hQ1
  have N1 := Fr.app N0 N1q
  have KK1 := K0.trans Kq1 all0
  refine own_to st1 ?_
  show own_Ends _ _ _ _ (T1.setTop (mkF m 3 #[.val (.ref s_), .unset, .unset, .unset, .unset] [(.ref u1)]))
  refine own_to (fun _ kont => XS.astoreN X1.here hx rfl (hb hby d7_3) rfl rfl (l' := #[.val (.ref s_), .val (.ref u1), .unset, .unset, .unset]) rfl kont) ?_
  show own_Ends _ _ _ _ (T1.setTop (mkF m 4 #[.val (.ref s_), .val (.ref u1), .unset, .unset, .unset] []))
  refine own_to (fun _ kont => XS.aloadN X1.here hx rfl (hb hby d7_4) rfl rfl kont) ?_
  show own_Ends _ _ _ _ (T1.setTop (mkF m 5 #[.val (.ref s_), .val (.ref u1), .unset, .unset, .unset] [(.ref u1)]))
  obtain ⟨cl2, Ar2, q2, S2, M2, -, -⟩ := id Vx1
  refine own_to (fun _ kont => X1.arraylength hx Ar2.1 (State.isArrayOf_alike hZ.alike Ar2.2.1) (g := (mkF m 5 #[.val (.ref s_), .val (.ref u1), .unset, .unset, .unset] [(.ref u1)])) rfl rfl (hb hby d7_5) _ kont) ?_
  rw [len_of S2 M2]
  show own_Ends _ _ _ _ (T1.setTop (mkF m 6 #[.val (.ref s_), .val (.ref u1), .unset, .unset, .unset] [(.int 2)]))
  refine own_to (fun _ kont => XS.istoreN X1.here hx rfl (hb hby d7_6) rfl (l' := #[.val (.ref s_), .val (.ref u1), .val (.int (2 : Int32)), .unset, .unset]) rfl kont) ?_
  show own_Ends _ _ _ _ (T1.setTop (mkF m 7 #[.val (.ref s_), .val (.ref u1), .val (.int 2), .unset, .unset] []))
  refine own_to (fun _ kont => XS.iconst X1.here hx rfl (hb hby d7_7) kont) ?_
  show own_Ends _ _ _ _ (T1.setTop (mkF m 8 #[.val (.ref s_), .val (.ref u1), .val (.int 2), .unset, .unset] [(.int 0)]))
  refine own_to (fun _ kont => XS.istoreN X1.here hx rfl (hb hby d7_8) rfl (l' := #[.val (.ref s_), .val (.ref u1), .val (.int (2 : Int32)), .val (.int (0 : Int32)), .unset]) rfl kont) ?_
  show own_Ends _ _ _ _ (T1.setTop (mkF m 9 #[.val (.ref s_), .val (.ref u1), .val (.int 2), .val (.int 0), .unset] []))
  refine own_to (fun _ kont => XS.iloadN X1.here hx rfl (hb hby d7_9) rfl kont) ?_
  show own_Ends _ _ _ _ (T1.setTop (mkF m 10 #[.val (.ref s_), .val (.ref u1), .val (.int 2), .val (.int 0), .unset] [(.int 0)]))
  refine own_to (fun _ kont => XS.iloadN X1.here hx rfl (hb hby d7_10) rfl kont) ?_
  show own_Ends _ _ _ _ (T1.setTop (mkF m 11 #[.val (.ref s_), .val (.ref u1), .val (.int 2), .val (.int 0), .unset] [(.int 2), (.int 0)]))
  refine own_to (fun _ kont => XS.icmpNo X1.here hx rfl (hb hby d7_11) rfl (tlt (by decide)).2.1 kont) ?_
  show own_Ends _ _ _ _ (T1.setTop (mkF m 14 #[.val (.ref s_), .val (.ref u1), .val (.int 2), .val (.int 0), .unset] []))
  refine own_to (fun _ kont => XS.aloadN X1.here hx rfl (hb hby d7_14) rfl rfl kont) ?_
  show own_Ends _ _ _ _ (T1.setTop (mkF m 15 #[.val (.ref s_), .val (.ref u1), .val (.int 2), .val (.int 0), .unset] [(.ref u1)]))
  refine own_to (fun _ kont => XS.iloadN X1.here hx rfl (hb hby d7_15) rfl kont) ?_
  show own_Ends _ _ _ _ (T1.setTop (mkF m 16 #[.val (.ref s_), .val (.ref u1), .val (.int 2), .val (.int 0), .unset] [(.int 0), (.ref u1)]))
  obtain ⟨cl3, Ar3, q3, S3, M3, H3, G3⟩ := id Vx1
  have hin3 : ¬ ((0 : Int32) < 0 ∨ cl3.slots.size ≤ ((0 : Int32)).toNatClampNeg) := inb_of S3 ⟨by decide, by decide⟩
  have hat3 : cl3.slots[((0 : Int32)).toNatClampNeg]? = some (.ref c0) := Has.at H3 hin3 rfl
  refine own_to (fun _ kont => X1.aaload hx (j := (0 : Int32)) (v := (.ref c0)) Ar3.1 (State.isArrayOf_alike hZ.alike Ar3.2.1) rfl Ar3.2.2 hin3 hat3 (g := (mkF m 16 #[.val (.ref s_), .val (.ref u1), .val (.int (2 : Int32)), .val (.int (0 : Int32)), .unset] [(.int (0 : Int32)), (.ref u1)])) rfl rfl (hb hby d7_16) _ kont) ?_
  show own_Ends _ _ _ _ (T1.setTop (mkF m 17 #[.val (.ref s_), .val (.ref u1), .val (.int 2), .val (.int 0), .unset] [(.ref c0)]))
  refine own_to (fun _ kont => XS.astore X1.here hx rfl (hb hby d7_17) rfl rfl (l' := #[.val (.ref s_), .val (.ref u1), .val (.int (2 : Int32)), .val (.int (0 : Int32)), .val (.ref c0)]) rfl kont) ?_
  show own_Ends _ _ _ _ (T1.setTop (mkF m 19 #[.val (.ref s_), .val (.ref u1), .val (.int 2), .val (.int 0), .val (.ref c0)] []))
  refine own_to (fun _ kont => XS.aload X1.here hx rfl (hb hby d7_19) rfl rfl kont) ?_
  show own_Ends _ _ _ _ (T1.setTop (mkF m 21 #[.val (.ref s_), .val (.ref u1), .val (.int 2), .val (.int 0), .val (.ref c0)] [(.ref c0)]))
  obtain ⟨T4, X4, e4, st4⟩ := getF X1 hx hZ hown (host := "") (Or.inl (ow52 hw)) Via.refl rfl (F_t0.ext Oq1.2) (g := (mkF m 21 #[.val (.ref s_), .val (.ref u1), .val (.int (2 : Int32)), .val (.int (0 : Int32)), .val (.ref c0)] [(.ref c0)])) rfl rfl (hb hby d7_21)
  refine own_to st4 ?_
  show own_Ends _ _ _ _ (T4.setTop (mkF m 24 #[.val (.ref s_), .val (.ref u1), .val (.int 2), .val (.int 0), .val (.ref c0)] [(.ref t0)]))
  refine own_to (fun _ kont => XS.aloadN X4.here hx rfl (hb hby d7_24) rfl rfl kont) ?_
  show own_Ends _ _ _ _ (T4.setTop (mkF m 25 #[.val (.ref s_), .val (.ref u1), .val (.int 2), .val (.int 0), .val (.ref c0)] [(.ref s_), (.ref t0)]))
  obtain ⟨cq5, kq5, q5a, q5b, q5c⟩ := isOf hZ e4 (E_t0.ext Oq1.2)
  obtain ⟨_, _, ⟨T5, L5, k5, n5⟩, -, X5, ⟨Lc5, hQ5, l5, y5, z5⟩, st5⟩ := X4.virtualBack hx (y := oM6) (z := oM6) hown (mvT hZ (ow54 hw)) (mvT hZ (ow55 hw)) (notFace_of_selects (args := #[]) (mvT hZ (ow57 hw))) (mvT hZ (ow57 hw)) (mvT hZ (ow56 hw)) (by decide) (backOf (W := 0) (seqAB l Z a0 hw [] t0 s_ v0 vb k0_ kb cs_ T1.heap n0 Oq1 ne_t0 (E_s.keep Kq1) (F_v0.ext Oq1.2) (F_vs.keep Kq1 nin0) (F_c0.ext Oq1.2) (F_cs.keep Kq1 nin0) (V_v0.ext Oq1.2) (V_y.keep Kq1 nin0) S_cs hcs) hZ (ow58 hw) (ow3 hw) (by decide) (by decide)) q5a q5c (g := (mkF m 25 #[.val (.ref s_), .val (.ref u1), .val (.int (2 : Int32)), .val (.int (0 : Int32)), .val (.ref c0)] [(.ref s_), (.ref t0)])) rfl (by rw [hml]; rfl) (Steps.refl _) (argsL := [(.ref s_)]) (rest := []) (lenOf pd_6 rfl) rfl (by show 2 * 0 + _ ≤ _; exact Nat.le_of_eq rfl) (hb hby d7_25) (fun _ _ => ⟨rfl, e4, (own_le rfl), (own_le rfl)⟩)
  dsimp only [Pt.U, Pt.locs, Pt.cells, Pt.slots] at X5 l5 y5 z5 st5 hQ5
  subst l5 y5 z5
  obtain ⟨rfl, N5q, E5⟩ := hQ5
  have N5 := Fr.app N1 N5q
  refine own_tr st5 ?_
  show own_Ends _ _ _ _ (T5.setTop (mkF m 28 #[.val (.ref s_), .val (.ref u1), .val (.int 2), .val (.int 0), .val (.ref c0)] [(.int 0)]))
  refine own_to (fun _ kont => XS.ifYes X5.here hx rfl (pc0 := 28) (pc' := 34) rfl (hb hby d7_28) rfl ((if0 _ _).trans (teq (by decide)).1) (by decide) (by decide) kont) ?_
  show own_Ends _ _ _ _ (T5.setTop (mkF m 34 #[.val (.ref s_), .val (.ref u1), .val (.int 2), .val (.int 0), .val (.ref c0)] []))
  refine own_to (fun _ kont => XS.iinc X5.here hx rfl (hb hby d7_34) rfl (l' := #[.val (.ref s_), .val (.ref u1), .val (.int (2 : Int32)), .val (.int (1 : Int32)), .val (.ref c0)]) rfl kont) ?_
  show own_Ends _ _ _ _ (T5.setTop (mkF m 37 #[.val (.ref s_), .val (.ref u1), .val (.int 2), .val (.int 1), .val (.ref c0)] []))
  refine own_to (fun _ kont => XS.goto X5.here hx rfl (pc0 := 37) (pc' := 9) rfl (hb hby d7_37) (by decide) (by decide) kont) ?_
  show own_Ends _ _ _ _ (T5.setTop (mkF m 9 #[.val (.ref s_), .val (.ref u1), .val (.int 2), .val (.int 1), .val (.ref c0)] []))
  refine own_to (fun _ kont => XS.iloadN X5.here hx rfl (hb hby d7_9) rfl kont) ?_
  show own_Ends _ _ _ _ (T5.setTop (mkF m 10 #[.val (.ref s_), .val (.ref u1), .val (.int 2), .val (.int 1), .val (.ref c0)] [(.int 1)]))
  refine own_to (fun _ kont => XS.iloadN X5.here hx rfl (hb hby d7_10) rfl kont) ?_
  show own_Ends _ _ _ _ (T5.setTop (mkF m 11 #[.val (.ref s_), .val (.ref u1), .val (.int 2), .val (.int 1), .val (.ref c0)] [(.int 2), (.int 1)]))
  refine own_to (fun _ kont => XS.icmpNo X5.here hx rfl (hb hby d7_11) rfl (tlt (by decide)).2.1 kont) ?_
  show own_Ends _ _ _ _ (T5.setTop (mkF m 14 #[.val (.ref s_), .val (.ref u1), .val (.int 2), .val (.int 1), .val (.ref c0)] []))
  refine own_to (fun _ kont => XS.aloadN X5.here hx rfl (hb hby d7_14) rfl rfl kont) ?_
  show own_Ends _ _ _ _ (T5.setTop (mkF m 15 #[.val (.ref s_), .val (.ref u1), .val (.int 2), .val (.int 1), .val (.ref c0)] [(.ref u1)]))
  refine own_to (fun _ kont => XS.iloadN X5.here hx rfl (hb hby d7_15) rfl kont) ?_
  show own_Ends _ _ _ _ (T5.setTop (mkF m 16 #[.val (.ref s_), .val (.ref u1), .val (.int 2), .val (.int 1), .val (.ref c0)] [(.int 1), (.ref u1)]))
  obtain ⟨cl6, Ar6, q6, S6, M6, H6, G6⟩ := id Vx1
  have hin6 : ¬ ((1 : Int32) < 0 ∨ cl6.slots.size ≤ ((1 : Int32)).toNatClampNeg) := inb_of S6 ⟨by decide, by decide⟩
  have hat6 : cl6.slots[((1 : Int32)).toNatClampNeg]? = some (.ref c1) := Has.at H6 hin6 rfl
  refine own_to (fun _ kont => X5.aaload hx (j := (1 : Int32)) (v := (.ref c1)) (by rw [E5]; exact Ar6.1) (State.isArrayOf_alike hZ.alike Ar6.2.1) rfl Ar6.2.2 hin6 hat6 (g := (mkF m 16 #[.val (.ref s_), .val (.ref u1), .val (.int (2 : Int32)), .val (.int (1 : Int32)), .val (.ref c0)] [(.int (1 : Int32)), (.ref u1)])) rfl rfl (hb hby d7_16) _ kont) ?_
  show own_Ends _ _ _ _ (T5.setTop (mkF m 17 #[.val (.ref s_), .val (.ref u1), .val (.int 2), .val (.int 1), .val (.ref c0)] [(.ref c1)]))
  refine own_to (fun _ kont => XS.astore X5.here hx rfl (hb hby d7_17) rfl rfl (l' := #[.val (.ref s_), .val (.ref u1), .val (.int (2 : Int32)), .val (.int (1 : Int32)), .val (.ref c1)]) rfl kont) ?_
  show own_Ends _ _ _ _ (T5.setTop (mkF m 19 #[.val (.ref s_), .val (.ref u1), .val (.int 2), .val (.int 1), .val (.ref c1)] []))
  refine own_to (fun _ kont => XS.aload X5.here hx rfl (hb hby d7_19) rfl rfl kont) ?_
  show own_Ends _ _ _ _ (T5.setTop (mkF m 21 #[.val (.ref s_), .val (.ref u1), .val (.int 2), .val (.int 1), .val (.ref c1)] [(.ref c1)]))
  obtain ⟨T7, X7, e7, st7⟩ := getF X5 hx hZ hown (host := "") (Or.inl (ow52 hw)) Via.refl E5 (F_t1.ext Oq1.2) (g := (mkF m 21 #[.val (.ref s_), .val (.ref u1), .val (.int (2 : Int32)), .val (.int (1 : Int32)), .val (.ref c1)] [(.ref c1)])) rfl rfl (hb hby d7_21)
  refine own_to st7 ?_
  show own_Ends _ _ _ _ (T7.setTop (mkF m 24 #[.val (.ref s_), .val (.ref u1), .val (.int 2), .val (.int 1), .val (.ref c1)] [(.ref t1)]))
  refine own_to (fun _ kont => XS.aloadN X7.here hx rfl (hb hby d7_24) rfl rfl kont) ?_
  show own_Ends _ _ _ _ (T7.setTop (mkF m 25 #[.val (.ref s_), .val (.ref u1), .val (.int 2), .val (.int 1), .val (.ref c1)] [(.ref s_), (.ref t1)]))
  obtain ⟨cq8, kq8, q8a, q8b, q8c⟩ := isOf hZ e7 (E_t1.ext Oq1.2)
  obtain ⟨_, _, ⟨T8, L8, k8, n8⟩, -, X8, ⟨Lc8, hQ8, l8, y8, z8⟩, st8⟩ := X7.virtualBack hx (y := oM6) (z := oM6) hown (mvT hZ (ow54 hw)) (mvT hZ (ow55 hw)) (notFace_of_selects (args := #[]) (mvT hZ (ow57 hw))) (mvT hZ (ow57 hw)) (mvT hZ (ow56 hw)) (by decide) (backOf (W := 0) (seqBB l Z a0 hw [] t1 s_ v1 vb k1_ kb cs_ T1.heap n0 Oq1 ne_t1 (E_s.keep Kq1) (F_v1.ext Oq1.2) (F_vs.keep Kq1 nin0) (F_c1.ext Oq1.2) (F_cs.keep Kq1 nin0) (V_v1.ext Oq1.2) (V_y.keep Kq1 nin0) S_cs hcs) hZ (ow58 hw) (ow3 hw) (by decide) (by decide)) q8a q8c (g := (mkF m 25 #[.val (.ref s_), .val (.ref u1), .val (.int (2 : Int32)), .val (.int (1 : Int32)), .val (.ref c1)] [(.ref s_), (.ref t1)])) rfl (by rw [hml]; rfl) (Steps.refl _) (argsL := [(.ref s_)]) (rest := []) (lenOf pd_6 rfl) rfl (by show 2 * 0 + _ ≤ _; exact Nat.le_of_eq rfl) (hb hby d7_25) (fun _ _ => ⟨rfl, e7, (own_le rfl), (own_le rfl)⟩)
  dsimp only [Pt.U, Pt.locs, Pt.cells, Pt.slots] at X8 l8 y8 z8 st8 hQ8
  subst l8 y8 z8
  obtain ⟨rfl, N8q, E8⟩ := hQ8
  have N8 := Fr.app N5 N8q
  refine own_tr st8 ?_
  show own_Ends _ _ _ _ (T8.setTop (mkF m 28 #[.val (.ref s_), .val (.ref u1), .val (.int 2), .val (.int 1), .val (.ref c1)] [(.int 1)]))
  refine own_to (fun _ kont => XS.ifNo X8.here hx rfl (hb hby d7_28) rfl ((if0 _ _).trans (feq (by decide)).1) kont) ?_
  show own_Ends _ _ _ _ (T8.setTop (mkF m 31 #[.val (.ref s_), .val (.ref u1), .val (.int 2), .val (.int 1), .val (.ref c1)] []))
  refine own_to (fun _ kont => XS.aload X8.here hx rfl (hb hby d7_31) rfl rfl kont) ?_
  show own_Ends _ _ _ _ (T8.setTop (mkF m 33 #[.val (.ref s_), .val (.ref u1), .val (.int 2), .val (.int 1), .val (.ref c1)] [(.ref c1)]))
  refine own_leave X8 (v := some (.ref c1)) (fun h => by rw [Bd.returns] at h; cases h) ?_ (by decide) (by decide) (fun fs hr => retOut X8 hx Bd.returns rfl (Or.inr (Or.inr (Or.inr (Or.inr ⟨rfl, rfl, rfl⟩)))) (hb hby d7_33) hr)
  show Q_rmFB Z s_ c0 c1 vs_ kv_ t0 t1 v0 v1 k0_ k1_ vb kb cs_ h0 n0 _ T8.heap _
  rw [E8]
  exact ⟨rfl, N8, Oq1, KK1⟩
theorem d11_0 : decode prog_10_method_4_code 0 = .ok (.aload_n 0, 1) := by decide +kernel
theorem d11_1 : decode prog_10_method_4_code 1 = .ok (.getfield 29, 3) := by decide +kernel
theorem d11_4 : decode prog_10_method_4_code 4 = .ok (.areturn, 1) := by decide +kernel
theorem pn_11 : plainName "com/example/ship_shore_exchange/shipshoreexchange/model/Role" = true := by first | (simp [plainName, overriddenIn]; done) | decide +kernel
theorem ef_rmT (m : MethodId) (a : Addr) : entryFrame m #[(.ref a)] 1 = mkF m 0 #[.val (.ref a)] [] := by first | (simp [entryFrame, mkF, argsToLocals, Value.category]; done) | rfl | (rcases ref_cases hrf with rfl | ⟨q, rfl⟩ <;> rfl)
def Q_rmT (Z : State) (a : Addr) (t_ : Addr) (h0 : Heap) (n0 : Nat) (v : Option Value) (h : Heap) (L : List Loc) : Prop := v = some (.ref t_) ∧ Fr n0 L ∧ h = h0
set_option maxRecDepth 65536 in
set_option maxHeartbeats 40000000 in
theorem rmT (l : Launch) (Z : State) (a0 : Array Value) (hw : ∀ d ∈ tables_1, d.before a0 Z = true) (ws : List Jvm.Cond) (a : Addr) (t_ : Addr) (h0 : Heap) (n0 : Nat) (O0 : Old Z n0 h0) (F_a : Fld Z Z.heap a "com/example/ship_shore_exchange/shipshoreexchange/model/Role" "text" "Ljava/lang/String;" (.ref t_)) :
    MetFree l oM9 (head1 (Jvm.Cond.code oM9 prog_10_method_4_code 1 (some (.object "java/lang/String")) :: ws) ({ frames := 0, cells := 0, slots := 0, locals := 0 } : Room)) (fun aq_ U => aq_ = #[(.ref a)] ∧ Z.Warmed39 U.vm ∧ U.heap = h0) (fun _ _ _ _ _ => True) (fun _ U o U' => ∃ v L, o = .returned v ∧ Q_rmT Z a t_ h0 n0 v U'.heap L ∧ FrameEnd U o U' L ({ frames := 0, cells := 0, slots := 0, locals := 0 } : Room).cells ({ frames := 0, cells := 0, slots := 0, locals := 0 } : Room).slots) := by
  refine MetFree.of_bodySF (plainFor_of_name pn_11) hisR ?_
  intro p e s m args below meth c s₁ Bd hml0 hP hK
  obtain ⟨rfl, hZ, hh⟩ := hP
  have hx := Bd.exec
  have hby := Bd.bytes
  have hml : c.maxLocals = 1 := hml0
  have hown : s.vm.findClass "com/example/ship_shore_exchange/shipshoreexchange/model/Role" = some m.cls := findClass_of_methodNamed Bd.named
  have hnm := (name_of_methodNamed Bd.named Bd.method).1
  have X0 : Stand p l e ({ frames := 0, cells := 0, slots := 0, locals := 0 } : Room) s m #[(.ref a)] below meth c s₁ [] 0 0 := Stand.of_body Bd
  have e0 : s₁.heap = h0 := by rw [← hh, Bd.state]; rfl
  have N0 := Fr.nil n0
  show own_Ends p.tables e below (own_P s (Q_rmT Z a t_ h0 n0) ({ frames := 0, cells := 0, slots := 0, locals := 0 } : Room).cells ({ frames := 0, cells := 0, slots := 0, locals := 0 } : Room).slots) _
  refine own_cast (ef_rmT m a) ?_
  show own_Ends _ _ _ _ (s₁.setTop (mkF m 0 #[.val (.ref a)] []))
  refine own_to (fun _ kont => XS.aloadN X0.here hx rfl (hb hby d11_0) rfl rfl kont) ?_
  show own_Ends _ _ _ _ (s₁.setTop (mkF m 1 #[.val (.ref a)] [(.ref a)]))
  obtain ⟨T1, X1, e1, st1⟩ := getF X0 hx hZ hown (host := "") (Or.inl (ow52 hw)) Via.refl e0 (F_a.ext O0.2) (g := (mkF m 1 #[.val (.ref a)] [(.ref a)])) rfl rfl (hb hby d11_1)
  refine own_to st1 ?_
  show own_Ends _ _ _ _ (T1.setTop (mkF m 4 #[.val (.ref a)] [(.ref t_)]))
  refine own_leave X1 (v := some (.ref t_)) (fun h => by rw [Bd.returns] at h; cases h) ?_ (by decide) (by decide) (fun fs hr => retOut X1 hx Bd.returns rfl (Or.inr (Or.inr (Or.inr (Or.inr ⟨rfl, rfl, rfl⟩)))) (hb hby d11_4) hr)
  show Q_rmT Z a t_ h0 n0 _ T1.heap _
  rw [e1]
  exact ⟨rfl, N0, rfl⟩
theorem pn_0 : plainName "com/example/ship_shore_exchange/shipshoreexchange/model/RoleFromTextPinLaw" = true := by first | (simp [plainName, overriddenIn]; done) | decide +kernel
theorem pd_7 : parseMethodDescriptor "([C)V" = some ⟨[(.array .char)], none⟩ := by decide +kernel
theorem pd_8 : parseMethodDescriptor "(Ljava/lang/String;)Lcom/example/ship_shore_exchange/shipshoreexchange/model/Role;" = some ⟨[(.object "java/lang/String")], some (.object "com/example/ship_shore_exchange/shipshoreexchange/model/Role")⟩ := by decide +kernel
theorem pd_9 : parseMethodDescriptor "()Ljava/lang/String;" = some ⟨[], some (.object "java/lang/String")⟩ := by decide +kernel
theorem ef_rm0 (m : MethodId) (z1 : Int32) : entryFrame m #[(.int z1)] maxLocals = mkF m 0 #[.val (.int z1), .unset, .unset, .unset, .unset, .unset] [] := by first | (simp [entryFrame, mkF, argsToLocals, Value.category, maxLocals]; done) | rfl | (rcases ref_cases hrf with rfl | ⟨q, rfl⟩ <;> rfl)
def Q_rm0 (Z : State) (z1 : Int32) (c0 : Addr) (c1 : Addr) (vs_ : Addr) (kv_ : ClassId) (t0 : Addr) (t1 : Addr) (v0 : Addr) (v1 : Addr) (k0_ : ClassId) (k1_ : ClassId) (cs_ : Int32) (h0 : Heap) (n0 : Nat) (v : Option Value) (h : Heap) (L : List Loc) : Prop := v = some (.int 1) ∧ Fr n0 L
set_option maxRecDepth 65536 in
set_option maxHeartbeats 40000000 in
theorem rm0 (l : Launch) (Z : State) (a0 : Array Value) (hw : ∀ d ∈ tables_1, d.before a0 Z = true) (ws : List Jvm.Cond) (z1 : Int32) (c0 : Addr) (c1 : Addr) (vs_ : Addr) (kv_ : ClassId) (t0 : Addr) (t1 : Addr) (v0 : Addr) (v1 : Addr) (k0_ : ClassId) (k1_ : ClassId) (cs_ : Int32) (h0 : Heap) (n0 : Nat) (O0 : Old Z n0 h0) (S_c0 : Sta Z Z.heap "com/example/ship_shore_exchange/shipshoreexchange/model/Role" "MSI" "Lcom/example/ship_shore_exchange/shipshoreexchange/model/Role;" (.ref c0)) (S_c1 : Sta Z Z.heap "com/example/ship_shore_exchange/shipshoreexchange/model/Role" "REGISTRY" "Lcom/example/ship_shore_exchange/shipshoreexchange/model/Role;" (.ref c1)) (E_c0 : Exa Z Z.heap c0 "com/example/ship_shore_exchange/shipshoreexchange/model/Role") (E_c1 : Exa Z Z.heap c1 "com/example/ship_shore_exchange/shipshoreexchange/model/Role") (S_vs : Sta Z Z.heap "com/example/ship_shore_exchange/shipshoreexchange/model/Role" "$VALUES" "[Lcom/example/ship_shore_exchange/shipshoreexchange/model/Role;" (.ref vs_)) (V_vs : Arv Z Z.heap vs_ kv_ (.object "com/example/ship_shore_exchange/shipshoreexchange/model/Role") (2 : Int32) [(.ref c0), (.ref c1)] .null) (E_vs : Exa Z Z.heap vs_ "[Lcom/example/ship_shore_exchange/shipshoreexchange/model/Role;") (F_t0 : Fld Z Z.heap c0 "com/example/ship_shore_exchange/shipshoreexchange/model/Role" "text" "Ljava/lang/String;" (.ref t0)) (E_t0 : Exa Z Z.heap t0 "java/lang/String") (F_c0 : Fld Z Z.heap t0 "java/lang/String" "coder" "B" (.int (0 : Int32))) (F_v0 : Fld Z Z.heap t0 "java/lang/String" "value" "[B" (.ref v0)) (V_v0 : Arv Z Z.heap v0 k0_ .byte (3 : Int32) [(.int (109 : Int32)), (.int (115 : Int32)), (.int (105 : Int32))] (.int (0 : Int32))) (F_t1 : Fld Z Z.heap c1 "com/example/ship_shore_exchange/shipshoreexchange/model/Role" "text" "Ljava/lang/String;" (.ref t1)) (E_t1 : Exa Z Z.heap t1 "java/lang/String") (F_c1 : Fld Z Z.heap t1 "java/lang/String" "coder" "B" (.int (0 : Int32))) (F_v1 : Fld Z Z.heap t1 "java/lang/String" "value" "[B" (.ref v1)) (V_v1 : Arv Z Z.heap v1 k1_ .byte (8 : Int32) [(.int (114 : Int32)), (.int (101 : Int32)), (.int (103 : Int32)), (.int (105 : Int32)), (.int (115 : Int32)), (.int (116 : Int32)), (.int (114 : Int32)), (.int (121 : Int32))] (.int (0 : Int32))) (S_cs : Sta Z Z.heap "java/lang/String" "COMPACT_STRINGS" "Z" (.int cs_)) (hcs : ¬ cs_ = (0 : Int32)) :
    MetFree l x (head1 (Jvm.Cond.code x code maxLocals ret :: ws) room_1) (fun aq_ U => aq_ = #[(.int z1)] ∧ Z.Warmed39 U.vm ∧ U.heap = h0) (fun _ _ _ _ _ => True) (fun _ U o U' => ∃ v L, o = .returned v ∧ Q_rm0 Z z1 c0 c1 vs_ kv_ t0 t1 v0 v1 k0_ k1_ cs_ h0 n0 v U'.heap L ∧ FrameEnd U o U' L 16 128) := by
  refine MetFree.of_bodySF (plainFor_of_name pn_0) hisR ?_
  intro p e s m args below meth c s₁ Bd hml0 hP hK
  obtain ⟨rfl, hZ, hh⟩ := hP
  have hx := Bd.exec
  have hby := Bd.bytes
  have hml : c.maxLocals = 6 := hml0
  have hown : s.vm.findClass "com/example/ship_shore_exchange/shipshoreexchange/model/RoleFromTextPinLaw" = some m.cls := findClass_of_methodNamed Bd.named
  have hnm := (name_of_methodNamed Bd.named Bd.method).1
  have X0 : Stand p l e room_1 s m #[(.int z1)] below meth c s₁ [] 0 0 := Stand.of_body Bd
  have e0 : s₁.heap = h0 := by rw [← hh, Bd.state]; rfl
  have N0 := Fr.nil n0
  show own_Ends p.tables e below (own_P s (Q_rm0 Z z1 c0 c1 vs_ kv_ t0 t1 v0 v1 k0_ k1_ cs_ h0 n0) 16 128) _
  refine own_cast (ef_rm0 m z1) ?_
  show own_Ends _ _ _ _ (s₁.setTop (mkF m 0 #[.val (.int z1), .unset, .unset, .unset, .unset, .unset] []))
  refine own_to (fun _ kont => XS.iloadN X0.here hx rfl (hb hby at_0) rfl kont) ?_
  show own_Ends _ _ _ _ (s₁.setTop (mkF m 1 #[.val (.int z1), .unset, .unset, .unset, .unset, .unset] [(.int z1)]))
  refine own_to (fun _ kont => XS.iconst X0.here hx rfl (hb hby at_1) kont) ?_
  show own_Ends _ _ _ _ (s₁.setTop (mkF m 2 #[.val (.int z1), .unset, .unset, .unset, .unset, .unset] [(.int 1), (.int z1)]))
  refine own_to (fun _ kont => XS.iand X0.here hx rfl (hb hby at_2) rfl kont) ?_
  show own_Ends _ _ _ _ (s₁.setTop (mkF m 3 #[.val (.int z1), .unset, .unset, .unset, .unset, .unset] [(.int (z1 &&& 1))]))
  by_cases hc3_1 : (z1 &&& (1 : Int32)) = (0 : Int32)
  · -- pc 3: (z1 &&& (1 : Int32)) = (0 : Int32)
    refine own_to (fun _ kont => XS.ifYes X0.here hx rfl (pc0 := 3) (pc' := 10) rfl (hb hby at_3) rfl ((if0 _ _).trans (teq hc3_1).1) (by decide) (by decide) kont) ?_
    show own_Ends _ _ _ _ (s₁.setTop (mkF m 10 #[.val (.int z1), .unset, .unset, .unset, .unset, .unset] []))
    refine own_to (fun _ kont => XS.iconst X0.here hx rfl (hb hby at_10) kont) ?_
    show own_Ends _ _ _ _ (s₁.setTop (mkF m 11 #[.val (.int z1), .unset, .unset, .unset, .unset, .unset] [(.int 0)]))
    refine own_to (fun _ kont => XS.istoreN X0.here hx rfl (hb hby at_11) rfl (l' := #[.val (.int z1), .val (.int (0 : Int32)), .unset, .unset, .unset, .unset]) rfl kont) ?_
    show own_Ends _ _ _ _ (s₁.setTop (mkF m 12 #[.val (.int z1), .val (.int 0), .unset, .unset, .unset, .unset] []))
    refine own_to (fun _ kont => XS.iloadN X0.here hx rfl (hb hby at_12) rfl kont) ?_
    show own_Ends _ _ _ _ (s₁.setTop (mkF m 13 #[.val (.int z1), .val (.int 0), .unset, .unset, .unset, .unset] [(.int 0)]))
    refine own_to (fun _ kont => XS.ifYes X0.here hx rfl (pc0 := 13) (pc' := 37) rfl (hb hby at_13) rfl ((if0 _ _).trans (teq (by decide)).1) (by decide) (by decide) kont) ?_
    show own_Ends _ _ _ _ (s₁.setTop (mkF m 37 #[.val (.int z1), .val (.int 0), .unset, .unset, .unset, .unset] []))
    refine own_to (fun _ kont => XS.bipush X0.here hx rfl (hb hby at_37) kont) ?_
    show own_Ends _ _ _ _ (s₁.setTop (mkF m 39 #[.val (.int z1), .val (.int 0), .unset, .unset, .unset, .unset] [(.int 8)]))
    obtain ⟨T2, h2, k2, X2, e2, E2, A2, st2⟩ := newP X0 hx hZ (aty := .char) (ow0 hw) e0 (g := (mkF m 39 #[.val (.int z1), .val (.int (0 : Int32)), .unset, .unset, .unset, .unset] [(.int (8 : Int32))])) rfl (hb hby at_39) rfl (by decide) (cap := 8) (by decide) (by decide) (by decide) (by decide)
    obtain ⟨b2, g2⟩ : ∃ z, z = h0.size := ⟨_, rfl⟩
    rw [← g2] at A2 st2
    have g_b2 : n0 ≤ b2 := Nat.le_trans (own_old_le O0) (Nat.le_of_eq g2.symm)
    refine own_to st2 ?_
    have O2 := O0.ext E2
    have Vn2 : Arv Z h2 b2 k2 .char (8 : Int32) [(.int (0 : Int32)), (.int (0 : Int32)), (.int (0 : Int32)), (.int (0 : Int32)), (.int (0 : Int32)), (.int (0 : Int32)), (.int (0 : Int32)), (.int (0 : Int32))] (.int (0 : Int32)) := (Arv.new A2 (by decide)).pad (pad_rep [] (.int (0 : Int32)) 8)
    show own_Ends _ _ _ _ (T2.setTop (mkF m 41 #[.val (.int z1), .val (.int 0), .unset, .unset, .unset, .unset] [(.ref b2)]))
    refine own_to (fun _ kont => XS.dup X2.here hx rfl (hb hby at_41) rfl rfl kont) ?_
    show own_Ends _ _ _ _ (T2.setTop (mkF m 42 #[.val (.int z1), .val (.int 0), .unset, .unset, .unset, .unset] [(.ref b2), (.ref b2)]))
    refine own_to (fun _ kont => XS.iconst X2.here hx rfl (hb hby at_42) kont) ?_
    show own_Ends _ _ _ _ (T2.setTop (mkF m 43 #[.val (.int z1), .val (.int 0), .unset, .unset, .unset, .unset] [(.int 0), (.ref b2), (.ref b2)]))
    refine own_to (fun _ kont => XS.bipush X2.here hx rfl (hb hby at_43) kont) ?_
    show own_Ends _ _ _ _ (T2.setTop (mkF m 45 #[.val (.int z1), .val (.int 0), .unset, .unset, .unset, .unset] [(.int 114), (.int 0), (.ref b2), (.ref b2)]))
    obtain ⟨cl3, Ar3, q3, S3, M3, H3, G3⟩ := id Vn2
    have hin3 : ¬ ((0 : Int32) < 0 ∨ cl3.slots.size ≤ ((0 : Int32)).toNatClampNeg) := inb_of S3 ⟨by decide, by decide⟩
    obtain ⟨T3, h3, X3, e3, W3, st3⟩ := stC X2 hx hZ e2 Ar3 (j := (0 : Int32)) hin3 (g := (mkF m 45 #[.val (.int z1), .val (.int (0 : Int32)), .unset, .unset, .unset, .unset] [(.int (114 : Int32)), (.int (0 : Int32)), (.ref b2), (.ref b2)])) rfl rfl (hb hby at_45)
    have Vs3 : Arv Z h3 b2 k2 .char (8 : Int32) [(.int (114 : Int32)), (.int (0 : Int32)), (.int (0 : Int32)), (.int (0 : Int32)), (.int (0 : Int32)), (.int (0 : Int32)), (.int (0 : Int32)), (.int (0 : Int32))] (.int (0 : Int32)) := Arv.set Ar3 q3 S3 M3 H3 G3 (fits_nar_char _) W3 0 rfl (own_lt rfl)
    refine own_to st3 ?_
    have O3 := O2.wr W3 g_b2
    have N3 := Fr.snoc X3 N0 g_b2
    show own_Ends _ _ _ _ (T3.setTop (mkF m 46 #[.val (.int z1), .val (.int 0), .unset, .unset, .unset, .unset] [(.ref b2)]))
    refine own_to (fun _ kont => XS.dup X3.here hx rfl (hb hby at_46) rfl rfl kont) ?_
    show own_Ends _ _ _ _ (T3.setTop (mkF m 47 #[.val (.int z1), .val (.int 0), .unset, .unset, .unset, .unset] [(.ref b2), (.ref b2)]))
    refine own_to (fun _ kont => XS.iconst X3.here hx rfl (hb hby at_47) kont) ?_
    show own_Ends _ _ _ _ (T3.setTop (mkF m 48 #[.val (.int z1), .val (.int 0), .unset, .unset, .unset, .unset] [(.int 1), (.ref b2), (.ref b2)]))
    refine own_to (fun _ kont => XS.bipush X3.here hx rfl (hb hby at_48) kont) ?_
    show own_Ends _ _ _ _ (T3.setTop (mkF m 50 #[.val (.int z1), .val (.int 0), .unset, .unset, .unset, .unset] [(.int 101), (.int 1), (.ref b2), (.ref b2)]))
    obtain ⟨cl4, Ar4, q4, S4, M4, H4, G4⟩ := id Vs3
    have hin4 : ¬ ((1 : Int32) < 0 ∨ cl4.slots.size ≤ ((1 : Int32)).toNatClampNeg) := inb_of S4 ⟨by decide, by decide⟩
    obtain ⟨T4, h4, X4, e4, W4, st4⟩ := stC X3 hx hZ e3 Ar4 (j := (1 : Int32)) hin4 (g := (mkF m 50 #[.val (.int z1), .val (.int (0 : Int32)), .unset, .unset, .unset, .unset] [(.int (101 : Int32)), (.int (1 : Int32)), (.ref b2), (.ref b2)])) rfl rfl (hb hby at_50)
    have Vs4 : Arv Z h4 b2 k2 .char (8 : Int32) [(.int (114 : Int32)), (.int (101 : Int32)), (.int (0 : Int32)), (.int (0 : Int32)), (.int (0 : Int32)), (.int (0 : Int32)), (.int (0 : Int32)), (.int (0 : Int32))] (.int (0 : Int32)) := Arv.set Ar4 q4 S4 M4 H4 G4 (fits_nar_char _) W4 1 rfl (own_lt rfl)
    refine own_to st4 ?_
    have O4 := O3.wr W4 g_b2
    have N4 := Fr.snoc X4 N3 g_b2
    show own_Ends _ _ _ _ (T4.setTop (mkF m 51 #[.val (.int z1), .val (.int 0), .unset, .unset, .unset, .unset] [(.ref b2)]))
    refine own_to (fun _ kont => XS.dup X4.here hx rfl (hb hby at_51) rfl rfl kont) ?_
    show own_Ends _ _ _ _ (T4.setTop (mkF m 52 #[.val (.int z1), .val (.int 0), .unset, .unset, .unset, .unset] [(.ref b2), (.ref b2)]))
    refine own_to (fun _ kont => XS.iconst X4.here hx rfl (hb hby at_52) kont) ?_
    show own_Ends _ _ _ _ (T4.setTop (mkF m 53 #[.val (.int z1), .val (.int 0), .unset, .unset, .unset, .unset] [(.int 2), (.ref b2), (.ref b2)]))
    refine own_to (fun _ kont => XS.bipush X4.here hx rfl (hb hby at_53) kont) ?_
    show own_Ends _ _ _ _ (T4.setTop (mkF m 55 #[.val (.int z1), .val (.int 0), .unset, .unset, .unset, .unset] [(.int 103), (.int 2), (.ref b2), (.ref b2)]))
    obtain ⟨cl5, Ar5, q5, S5, M5, H5, G5⟩ := id Vs4
    have hin5 : ¬ ((2 : Int32) < 0 ∨ cl5.slots.size ≤ ((2 : Int32)).toNatClampNeg) := inb_of S5 ⟨by decide, by decide⟩
    obtain ⟨T5, h5, X5, e5, W5, st5⟩ := stC X4 hx hZ e4 Ar5 (j := (2 : Int32)) hin5 (g := (mkF m 55 #[.val (.int z1), .val (.int (0 : Int32)), .unset, .unset, .unset, .unset] [(.int (103 : Int32)), (.int (2 : Int32)), (.ref b2), (.ref b2)])) rfl rfl (hb hby at_55)
    have Vs5 : Arv Z h5 b2 k2 .char (8 : Int32) [(.int (114 : Int32)), (.int (101 : Int32)), (.int (103 : Int32)), (.int (0 : Int32)), (.int (0 : Int32)), (.int (0 : Int32)), (.int (0 : Int32)), (.int (0 : Int32))] (.int (0 : Int32)) := Arv.set Ar5 q5 S5 M5 H5 G5 (fits_nar_char _) W5 2 rfl (own_lt rfl)
    refine own_to st5 ?_
    have O5 := O4.wr W5 g_b2
    have N5 := Fr.snoc X5 N4 g_b2
    show own_Ends _ _ _ _ (T5.setTop (mkF m 56 #[.val (.int z1), .val (.int 0), .unset, .unset, .unset, .unset] [(.ref b2)]))
    refine own_to (fun _ kont => XS.dup X5.here hx rfl (hb hby at_56) rfl rfl kont) ?_
    show own_Ends _ _ _ _ (T5.setTop (mkF m 57 #[.val (.int z1), .val (.int 0), .unset, .unset, .unset, .unset] [(.ref b2), (.ref b2)]))
    refine own_to (fun _ kont => XS.iconst X5.here hx rfl (hb hby at_57) kont) ?_
    show own_Ends _ _ _ _ (T5.setTop (mkF m 58 #[.val (.int z1), .val (.int 0), .unset, .unset, .unset, .unset] [(.int 3), (.ref b2), (.ref b2)]))
    refine own_to (fun _ kont => XS.bipush X5.here hx rfl (hb hby at_58) kont) ?_
    show own_Ends _ _ _ _ (T5.setTop (mkF m 60 #[.val (.int z1), .val (.int 0), .unset, .unset, .unset, .unset] [(.int 105), (.int 3), (.ref b2), (.ref b2)]))
    obtain ⟨cl6, Ar6, q6, S6, M6, H6, G6⟩ := id Vs5
    have hin6 : ¬ ((3 : Int32) < 0 ∨ cl6.slots.size ≤ ((3 : Int32)).toNatClampNeg) := inb_of S6 ⟨by decide, by decide⟩
    obtain ⟨T6, h6, X6, e6, W6, st6⟩ := stC X5 hx hZ e5 Ar6 (j := (3 : Int32)) hin6 (g := (mkF m 60 #[.val (.int z1), .val (.int (0 : Int32)), .unset, .unset, .unset, .unset] [(.int (105 : Int32)), (.int (3 : Int32)), (.ref b2), (.ref b2)])) rfl rfl (hb hby at_60)
    have Vs6 : Arv Z h6 b2 k2 .char (8 : Int32) [(.int (114 : Int32)), (.int (101 : Int32)), (.int (103 : Int32)), (.int (105 : Int32)), (.int (0 : Int32)), (.int (0 : Int32)), (.int (0 : Int32)), (.int (0 : Int32))] (.int (0 : Int32)) := Arv.set Ar6 q6 S6 M6 H6 G6 (fits_nar_char _) W6 3 rfl (own_lt rfl)
    refine own_to st6 ?_
    have O6 := O5.wr W6 g_b2
    have N6 := Fr.snoc X6 N5 g_b2
    show own_Ends _ _ _ _ (T6.setTop (mkF m 61 #[.val (.int z1), .val (.int 0), .unset, .unset, .unset, .unset] [(.ref b2)]))
    refine own_to (fun _ kont => XS.dup X6.here hx rfl (hb hby at_61) rfl rfl kont) ?_
    show own_Ends _ _ _ _ (T6.setTop (mkF m 62 #[.val (.int z1), .val (.int 0), .unset, .unset, .unset, .unset] [(.ref b2), (.ref b2)]))
    refine own_to (fun _ kont => XS.iconst X6.here hx rfl (hb hby at_62) kont) ?_
    show own_Ends _ _ _ _ (T6.setTop (mkF m 63 #[.val (.int z1), .val (.int 0), .unset, .unset, .unset, .unset] [(.int 4), (.ref b2), (.ref b2)]))
    refine own_to (fun _ kont => XS.bipush X6.here hx rfl (hb hby at_63) kont) ?_
    show own_Ends _ _ _ _ (T6.setTop (mkF m 65 #[.val (.int z1), .val (.int 0), .unset, .unset, .unset, .unset] [(.int 115), (.int 4), (.ref b2), (.ref b2)]))
    obtain ⟨cl7, Ar7, q7, S7, M7, H7, G7⟩ := id Vs6
    have hin7 : ¬ ((4 : Int32) < 0 ∨ cl7.slots.size ≤ ((4 : Int32)).toNatClampNeg) := inb_of S7 ⟨by decide, by decide⟩
    obtain ⟨T7, h7, X7, e7, W7, st7⟩ := stC X6 hx hZ e6 Ar7 (j := (4 : Int32)) hin7 (g := (mkF m 65 #[.val (.int z1), .val (.int (0 : Int32)), .unset, .unset, .unset, .unset] [(.int (115 : Int32)), (.int (4 : Int32)), (.ref b2), (.ref b2)])) rfl rfl (hb hby at_65)
    have Vs7 : Arv Z h7 b2 k2 .char (8 : Int32) [(.int (114 : Int32)), (.int (101 : Int32)), (.int (103 : Int32)), (.int (105 : Int32)), (.int (115 : Int32)), (.int (0 : Int32)), (.int (0 : Int32)), (.int (0 : Int32))] (.int (0 : Int32)) := Arv.set Ar7 q7 S7 M7 H7 G7 (fits_nar_char _) W7 4 rfl (own_lt rfl)
    refine own_to st7 ?_
    have O7 := O6.wr W7 g_b2
    have N7 := Fr.snoc X7 N6 g_b2
    show own_Ends _ _ _ _ (T7.setTop (mkF m 66 #[.val (.int z1), .val (.int 0), .unset, .unset, .unset, .unset] [(.ref b2)]))
    refine own_to (fun _ kont => XS.dup X7.here hx rfl (hb hby at_66) rfl rfl kont) ?_
    show own_Ends _ _ _ _ (T7.setTop (mkF m 67 #[.val (.int z1), .val (.int 0), .unset, .unset, .unset, .unset] [(.ref b2), (.ref b2)]))
    refine own_to (fun _ kont => XS.iconst X7.here hx rfl (hb hby at_67) kont) ?_
    show own_Ends _ _ _ _ (T7.setTop (mkF m 68 #[.val (.int z1), .val (.int 0), .unset, .unset, .unset, .unset] [(.int 5), (.ref b2), (.ref b2)]))
    refine own_to (fun _ kont => XS.bipush X7.here hx rfl (hb hby at_68) kont) ?_
    show own_Ends _ _ _ _ (T7.setTop (mkF m 70 #[.val (.int z1), .val (.int 0), .unset, .unset, .unset, .unset] [(.int 116), (.int 5), (.ref b2), (.ref b2)]))
    obtain ⟨cl8, Ar8, q8, S8, M8, H8, G8⟩ := id Vs7
    have hin8 : ¬ ((5 : Int32) < 0 ∨ cl8.slots.size ≤ ((5 : Int32)).toNatClampNeg) := inb_of S8 ⟨by decide, by decide⟩
    obtain ⟨T8, h8, X8, e8, W8, st8⟩ := stC X7 hx hZ e7 Ar8 (j := (5 : Int32)) hin8 (g := (mkF m 70 #[.val (.int z1), .val (.int (0 : Int32)), .unset, .unset, .unset, .unset] [(.int (116 : Int32)), (.int (5 : Int32)), (.ref b2), (.ref b2)])) rfl rfl (hb hby at_70)
    have Vs8 : Arv Z h8 b2 k2 .char (8 : Int32) [(.int (114 : Int32)), (.int (101 : Int32)), (.int (103 : Int32)), (.int (105 : Int32)), (.int (115 : Int32)), (.int (116 : Int32)), (.int (0 : Int32)), (.int (0 : Int32))] (.int (0 : Int32)) := Arv.set Ar8 q8 S8 M8 H8 G8 (fits_nar_char _) W8 5 rfl (own_lt rfl)
    refine own_to st8 ?_
    have O8 := O7.wr W8 g_b2
    have N8 := Fr.snoc X8 N7 g_b2
    show own_Ends _ _ _ _ (T8.setTop (mkF m 71 #[.val (.int z1), .val (.int 0), .unset, .unset, .unset, .unset] [(.ref b2)]))
    refine own_to (fun _ kont => XS.dup X8.here hx rfl (hb hby at_71) rfl rfl kont) ?_
    show own_Ends _ _ _ _ (T8.setTop (mkF m 72 #[.val (.int z1), .val (.int 0), .unset, .unset, .unset, .unset] [(.ref b2), (.ref b2)]))
    refine own_to (fun _ kont => XS.bipush X8.here hx rfl (hb hby at_72) kont) ?_
    show own_Ends _ _ _ _ (T8.setTop (mkF m 74 #[.val (.int z1), .val (.int 0), .unset, .unset, .unset, .unset] [(.int 6), (.ref b2), (.ref b2)]))
    refine own_to (fun _ kont => XS.bipush X8.here hx rfl (hb hby at_74) kont) ?_
    show own_Ends _ _ _ _ (T8.setTop (mkF m 76 #[.val (.int z1), .val (.int 0), .unset, .unset, .unset, .unset] [(.int 114), (.int 6), (.ref b2), (.ref b2)]))
    obtain ⟨cl9, Ar9, q9, S9, M9, H9, G9⟩ := id Vs8
    have hin9 : ¬ ((6 : Int32) < 0 ∨ cl9.slots.size ≤ ((6 : Int32)).toNatClampNeg) := inb_of S9 ⟨by decide, by decide⟩
    obtain ⟨T9, h9, X9, e9, W9, st9⟩ := stC X8 hx hZ e8 Ar9 (j := (6 : Int32)) hin9 (g := (mkF m 76 #[.val (.int z1), .val (.int (0 : Int32)), .unset, .unset, .unset, .unset] [(.int (114 : Int32)), (.int (6 : Int32)), (.ref b2), (.ref b2)])) rfl rfl (hb hby at_76)
    have Vs9 : Arv Z h9 b2 k2 .char (8 : Int32) [(.int (114 : Int32)), (.int (101 : Int32)), (.int (103 : Int32)), (.int (105 : Int32)), (.int (115 : Int32)), (.int (116 : Int32)), (.int (114 : Int32)), (.int (0 : Int32))] (.int (0 : Int32)) := Arv.set Ar9 q9 S9 M9 H9 G9 (fits_nar_char _) W9 6 rfl (own_lt rfl)
    refine own_to st9 ?_
    have O9 := O8.wr W9 g_b2
    have N9 := Fr.snoc X9 N8 g_b2
    show own_Ends _ _ _ _ (T9.setTop (mkF m 77 #[.val (.int z1), .val (.int 0), .unset, .unset, .unset, .unset] [(.ref b2)]))
    refine own_to (fun _ kont => XS.dup X9.here hx rfl (hb hby at_77) rfl rfl kont) ?_
    show own_Ends _ _ _ _ (T9.setTop (mkF m 78 #[.val (.int z1), .val (.int 0), .unset, .unset, .unset, .unset] [(.ref b2), (.ref b2)]))
    refine own_to (fun _ kont => XS.bipush X9.here hx rfl (hb hby at_78) kont) ?_
    show own_Ends _ _ _ _ (T9.setTop (mkF m 80 #[.val (.int z1), .val (.int 0), .unset, .unset, .unset, .unset] [(.int 7), (.ref b2), (.ref b2)]))
    refine own_to (fun _ kont => XS.bipush X9.here hx rfl (hb hby at_80) kont) ?_
    show own_Ends _ _ _ _ (T9.setTop (mkF m 82 #[.val (.int z1), .val (.int 0), .unset, .unset, .unset, .unset] [(.int 121), (.int 7), (.ref b2), (.ref b2)]))
    obtain ⟨cl10, Ar10, q10, S10, M10, H10, G10⟩ := id Vs9
    have hin10 : ¬ ((7 : Int32) < 0 ∨ cl10.slots.size ≤ ((7 : Int32)).toNatClampNeg) := inb_of S10 ⟨by decide, by decide⟩
    obtain ⟨T10, h10, X10, e10, W10, st10⟩ := stC X9 hx hZ e9 Ar10 (j := (7 : Int32)) hin10 (g := (mkF m 82 #[.val (.int z1), .val (.int (0 : Int32)), .unset, .unset, .unset, .unset] [(.int (121 : Int32)), (.int (7 : Int32)), (.ref b2), (.ref b2)])) rfl rfl (hb hby at_82)
    have Vs10 : Arv Z h10 b2 k2 .char (8 : Int32) [(.int (114 : Int32)), (.int (101 : Int32)), (.int (103 : Int32)), (.int (105 : Int32)), (.int (115 : Int32)), (.int (116 : Int32)), (.int (114 : Int32)), (.int (121 : Int32))] (.int (0 : Int32)) := Arv.set Ar10 q10 S10 M10 H10 G10 (fits_nar_char _) W10 7 rfl (own_lt rfl)
    refine own_to st10 ?_
    have O10 := O9.wr W10 g_b2
    have N10 := Fr.snoc X10 N9 g_b2
    show own_Ends _ _ _ _ (T10.setTop (mkF m 83 #[.val (.int z1), .val (.int 0), .unset, .unset, .unset, .unset] [(.ref b2)]))
    refine own_to (fun _ kont => XS.astoreN X10.here hx rfl (hb hby at_83) rfl rfl (l' := #[.val (.int z1), .val (.int (0 : Int32)), .val (.ref b2), .unset, .unset, .unset]) rfl kont) ?_
    show own_Ends _ _ _ _ (T10.setTop (mkF m 84 #[.val (.int z1), .val (.int 0), .val (.ref b2), .unset, .unset, .unset] []))
    obtain ⟨T11, h11, X11, e11, E11, A11, D11, U11, st11⟩ := newO X10 hx hZ hown (ow1 hw) (ow2 hw) (ow3 hw) e10 (g := (mkF m 84 #[.val (.int z1), .val (.int (0 : Int32)), .val (.ref b2), .unset, .unset, .unset] [])) rfl (hb hby at_84) (by decide) (by decide)
    obtain ⟨b11, g11⟩ : ∃ z, z = h10.size := ⟨_, rfl⟩
    rw [← g11] at A11 D11 st11
    have ne_b2_b11 : b2 ≠ b11 := Nat.ne_of_lt (Nat.lt_of_lt_of_le Vs10.lt (Nat.le_of_eq g11.symm))
    have g_b11 : n0 ≤ b11 := Nat.le_trans (own_old_le O10) (Nat.le_of_eq g11.symm)
    refine own_to st11 ?_
    have O11 := O10.ext E11
    have Fd11_coder : Fld Z h11 b11 "java/lang/String" "coder" "B" (.int (0 : Int32)) := D11 (Or.inr (ow27 hw)) (ty := .byte) (by decide)
    have Fd11_value : Fld Z h11 b11 "java/lang/String" "value" "[B" .null := D11 (Or.inr (ow29 hw)) (ty := (.array .byte)) (by decide)
    show own_Ends _ _ _ _ (T11.setTop (mkF m 87 #[.val (.int z1), .val (.int 0), .val (.ref b2), .unset, .unset, .unset] [(.ref b11)]))
    refine own_to (fun _ kont => XS.dup X11.here hx rfl (hb hby at_87) rfl rfl kont) ?_
    show own_Ends _ _ _ _ (T11.setTop (mkF m 88 #[.val (.int z1), .val (.int 0), .val (.ref b2), .unset, .unset, .unset] [(.ref b11), (.ref b11)]))
    refine own_to (fun _ kont => XS.aloadN X11.here hx rfl (hb hby at_88) rfl rfl kont) ?_
    show own_Ends _ _ _ _ (T11.setTop (mkF m 89 #[.val (.int z1), .val (.int 0), .val (.ref b2), .unset, .unset, .unset] [(.ref b2), (.ref b11), (.ref b11)]))
    obtain ⟨_, _, ⟨T12, L12, k12, n12⟩, -, X12, ⟨Lc12, hQ12, l12, y12, z12⟩, st12⟩ := X11.specialBack hx (y := oM4) rfl hown (mvT hZ (ow4 hw)) (mvT hZ (ow5 hw)) (mvT hZ (ow6 hw)) (by decide) (backOf (W := 1) (in1B l Z a0 hw [] b11 b2 k2 cs_ h11 n0 O11 g_b11 A11 Fd11_value Fd11_coder (Vs10.ext E11) ne_b2_b11 S_cs hcs) hZ (ow6 hw) (ow3 hw) (by decide) (by decide)) (g := (mkF m 89 #[.val (.int z1), .val (.int (0 : Int32)), .val (.ref b2), .unset, .unset, .unset] [(.ref b2), (.ref b11), (.ref b11)])) rfl (by rw [hml]; rfl) (Steps.refl _) (a := b11) (argsL := [(.ref b2)]) (rest := [(.ref b11)]) (lenOf pd_7 rfl) rfl (by show 2 * 0 + _ ≤ _; exact Nat.le_of_eq rfl) (hb hby at_89) (fun _ _ => ⟨rfl, e11, (own_le rfl), (own_le rfl)⟩)
    dsimp only [Pt.U, Pt.locs, Pt.cells, Pt.slots] at X12 l12 y12 z12 st12 hQ12
    subst l12 y12 z12
    obtain ⟨rfl, N12q, Oq12, Kq12, Ex12, Fc12, u12, ku12, g_u12, sq_u12, Fv12, Vx12⟩ := hQ12
    have N12 := Fr.app N10 N12q
    have ne_b2_u12 : b2 ≠ u12 := Nat.ne_of_lt (Nat.lt_of_lt_of_le (Vs10.ext E11).lt sq_u12)
    have ne_b11_u12 : b11 ≠ u12 := Nat.ne_of_lt (Nat.lt_of_lt_of_le A11.lt sq_u12)
    refine own_tr st12 ?_
    show own_Ends _ _ _ _ (T12.setTop (mkF m 92 #[.val (.int z1), .val (.int 0), .val (.ref b2), .unset, .unset, .unset] [(.ref b11)]))
    refine own_to (fun _ kont => XS.astoreN X12.here hx rfl (hb hby at_92) rfl rfl (l' := #[.val (.int z1), .val (.int (0 : Int32)), .val (.ref b2), .val (.ref b11), .unset, .unset]) rfl kont) ?_
    show own_Ends _ _ _ _ (T12.setTop (mkF m 93 #[.val (.int z1), .val (.int 0), .val (.ref b2), .val (.ref b11), .unset, .unset] []))
    refine own_to (fun _ kont => XS.iloadN X12.here hx rfl (hb hby at_93) rfl kont) ?_
    show own_Ends _ _ _ _ (T12.setTop (mkF m 94 #[.val (.int z1), .val (.int 0), .val (.ref b2), .val (.ref b11), .unset, .unset] [(.int 0)]))
    refine own_to (fun _ kont => XS.ifYes X12.here hx rfl (pc0 := 94) (pc' := 103) rfl (hb hby at_94) rfl ((if0 _ _).trans (teq (by decide)).1) (by decide) (by decide) kont) ?_
    show own_Ends _ _ _ _ (T12.setTop (mkF m 103 #[.val (.int z1), .val (.int 0), .val (.ref b2), .val (.ref b11), .unset, .unset] []))
    obtain ⟨T13, X13, e13, st13⟩ := getS2 X12 hx hZ hown (host := "") (Or.inl (ow30 hw)) Via.refl rfl (S_c1.ext Oq12.2) (g := (mkF m 103 #[.val (.int z1), .val (.int (0 : Int32)), .val (.ref b2), .val (.ref b11), .unset, .unset] [])) rfl (hb hby at_103)
    refine own_to st13 ?_
    show own_Ends _ _ _ _ (T13.setTop (mkF m 106 #[.val (.int z1), .val (.int 0), .val (.ref b2), .val (.ref b11), .unset, .unset] [(.ref c1)]))
    refine own_to (fun _ kont => XS.astore X13.here hx rfl (hb hby at_106) rfl rfl (l' := #[.val (.int z1), .val (.int (0 : Int32)), .val (.ref b2), .val (.ref b11), .val (.ref c1), .unset]) rfl kont) ?_
    show own_Ends _ _ _ _ (T13.setTop (mkF m 108 #[.val (.int z1), .val (.int 0), .val (.ref b2), .val (.ref b11), .val (.ref c1), .unset] []))
    refine own_to (fun _ kont => XS.aloadN X13.here hx rfl (hb hby at_108) rfl rfl kont) ?_
    show own_Ends _ _ _ _ (T13.setTop (mkF m 109 #[.val (.int z1), .val (.int 0), .val (.ref b2), .val (.ref b11), .val (.ref c1), .unset] [(.ref b11)]))
    obtain ⟨_, _, ⟨T14, L14, k14, n14⟩, -, X14, ⟨Lc14, hQ14, l14, y14, z14⟩, st14⟩ := Jvm.LawKit.callS X13 hx (y := oM8) hown (mvT hZ (ow33 hw)) (mvT hZ (ow34 hw)) (mvT hZ (ow31 hw)) (mvT hZ (ow35 hw)) (by decide) (backOf (W := 0) (rmFB l Z a0 hw [] b11 c0 c1 vs_ kv_ t0 t1 v0 v1 k0_ k1_ u12 ku12 cs_ T12.heap n0 Oq12 S_vs V_vs E_vs F_t0 E_t0 F_c0 F_v0 V_v0 F_t1 E_t1 F_c1 F_v1 V_v1 S_cs hcs (Oq12.ne E_t0.lt g_b11) (Oq12.ne E_t1.lt g_b11) Ex12 Fv12 Fc12 Vx12) hZ (ow35 hw) (ow31 hw) (by decide) (by decide)) (g := (mkF m 109 #[.val (.int z1), .val (.int (0 : Int32)), .val (.ref b2), .val (.ref b11), .val (.ref c1), .unset] [(.ref b11)])) rfl (by rw [hml]; rfl) (argsL := [(.ref b11)]) (rest := []) (lenOf pd_8 rfl) rfl (by show 2 * 0 + _ ≤ _; exact Nat.le_of_eq rfl) (hb hby at_109) (fun _ _ => ⟨rfl, e13, (own_le rfl), (own_le rfl)⟩)
    dsimp only [Pt.U, Pt.locs, Pt.cells, Pt.slots] at X14 l14 y14 z14 st14 hQ14
    subst l14 y14 z14
    obtain ⟨rfl, N14q, Oq14, Kq14⟩ := hQ14
    have N14 := Fr.app N12 N14q
    refine own_to st14 ?_
    show own_Ends _ _ _ _ (T14.setTop (mkF m 112 #[.val (.int z1), .val (.int 0), .val (.ref b2), .val (.ref b11), .val (.ref c1), .unset] [(.ref c1)]))
    refine own_to (fun _ kont => XS.astore X14.here hx rfl (hb hby at_112) rfl rfl (l' := #[.val (.int z1), .val (.int (0 : Int32)), .val (.ref b2), .val (.ref b11), .val (.ref c1), .val (.ref c1)]) rfl kont) ?_
    show own_Ends _ _ _ _ (T14.setTop (mkF m 114 #[.val (.int z1), .val (.int 0), .val (.ref b2), .val (.ref b11), .val (.ref c1), .val (.ref c1)] []))
    refine own_to (fun _ kont => XS.aload X14.here hx rfl (hb hby at_114) rfl rfl kont) ?_
    show own_Ends _ _ _ _ (T14.setTop (mkF m 116 #[.val (.int z1), .val (.int 0), .val (.ref b2), .val (.ref b11), .val (.ref c1), .val (.ref c1)] [(.ref c1)]))
    refine own_to (fun _ kont => XS.aload X14.here hx rfl (hb hby at_116) rfl rfl kont) ?_
    show own_Ends _ _ _ _ (T14.setTop (mkF m 118 #[.val (.int z1), .val (.int 0), .val (.ref b2), .val (.ref b11), .val (.ref c1), .val (.ref c1)] [(.ref c1), (.ref c1)]))
    refine own_to (fun _ kont => Jvm.RoadKit.acmp (g := (mkF m 118 #[.val (.int z1), .val (.int (0 : Int32)), .val (.ref b2), .val (.ref b11), .val (.ref c1), .val (.ref c1)] [(.ref c1), (.ref c1)])) X14 hx rfl rfl rfl (pc0 := 118) (pc' := 121) (same := true) rfl (hb hby at_118) rfl (decide_eq_true rfl) (by decide) (by decide) kont) ?_
    show own_Ends _ _ _ _ (T14.setTop (mkF m 121 #[.val (.int z1), .val (.int 0), .val (.ref b2), .val (.ref b11), .val (.ref c1), .val (.ref c1)] []))
    refine own_to (fun _ kont => XS.aload X14.here hx rfl (hb hby at_121) rfl rfl kont) ?_
    show own_Ends _ _ _ _ (T14.setTop (mkF m 123 #[.val (.int z1), .val (.int 0), .val (.ref b2), .val (.ref b11), .val (.ref c1), .val (.ref c1)] [(.ref c1)]))
    obtain ⟨cq15, kq15, q15a, q15b, q15c⟩ := isOf hZ rfl (E_c1.ext Oq14.2)
    obtain ⟨_, _, ⟨T15, L15, k15, n15⟩, -, X15, ⟨Lc15, hQ15, l15, y15, z15⟩, st15⟩ := X14.virtualBack hx (y := oM9) (z := oM9) hown (mvT hZ (ow64 hw)) (mvT hZ (ow65 hw)) (notFace_of_selects (args := #[]) (mvT hZ (ow67 hw))) (mvT hZ (ow67 hw)) (mvT hZ (ow66 hw)) (by decide) (backOf (W := 0) (rmT l Z a0 hw [] c1 t1 T14.heap n0 Oq14 F_t1) hZ (ow68 hw) (ow31 hw) (by decide) (by decide)) q15a q15c (g := (mkF m 123 #[.val (.int z1), .val (.int (0 : Int32)), .val (.ref b2), .val (.ref b11), .val (.ref c1), .val (.ref c1)] [(.ref c1)])) rfl (by rw [hml]; rfl) (Steps.refl _) (argsL := []) (rest := []) (lenOf pd_9 rfl) rfl (by show 2 * 0 + _ ≤ _; exact Nat.le_of_eq rfl) (hb hby at_123) (fun _ _ => ⟨rfl, rfl, (own_le rfl), (own_le rfl)⟩)
    dsimp only [Pt.U, Pt.locs, Pt.cells, Pt.slots] at X15 l15 y15 z15 st15 hQ15
    subst l15 y15 z15
    obtain ⟨rfl, N15q, E15⟩ := hQ15
    have N15 := Fr.app N14 N15q
    refine own_tr st15 ?_
    show own_Ends _ _ _ _ (T15.setTop (mkF m 126 #[.val (.int z1), .val (.int 0), .val (.ref b2), .val (.ref b11), .val (.ref c1), .val (.ref c1)] [(.ref t1)]))
    refine own_to (fun _ kont => XS.aloadN X15.here hx rfl (hb hby at_126) rfl rfl kont) ?_
    show own_Ends _ _ _ _ (T15.setTop (mkF m 127 #[.val (.int z1), .val (.int 0), .val (.ref b2), .val (.ref b11), .val (.ref c1), .val (.ref c1)] [(.ref b11), (.ref t1)]))
    obtain ⟨cq16, kq16, q16a, q16b, q16c⟩ := isOf hZ E15 (E_t1.ext Oq14.2)
    obtain ⟨_, _, ⟨T16, L16, k16, n16⟩, -, X16, ⟨Lc16, hQ16, l16, y16, z16⟩, st16⟩ := X15.virtualBack hx (y := oM6) (z := oM6) hown (mvT hZ (ow69 hw)) (mvT hZ (ow55 hw)) (notFace_of_selects (args := #[]) (mvT hZ (ow57 hw))) (mvT hZ (ow57 hw)) (mvT hZ (ow56 hw)) (by decide) (backOf (W := 0) (seqBB l Z a0 hw [] t1 b11 v1 u12 k1_ ku12 cs_ T14.heap n0 Oq14 (Oq14.ne E_t1.lt g_b11) (Ex12.keep Kq14) (F_v1.ext Oq14.2) (Fv12.keep Kq14 nin0) (F_c1.ext Oq14.2) (Fc12.keep Kq14 nin0) (V_v1.ext Oq14.2) (Vx12.keep Kq14 nin0) S_cs hcs) hZ (ow58 hw) (ow3 hw) (by decide) (by decide)) q16a q16c (g := (mkF m 127 #[.val (.int z1), .val (.int (0 : Int32)), .val (.ref b2), .val (.ref b11), .val (.ref c1), .val (.ref c1)] [(.ref b11), (.ref t1)])) rfl (by rw [hml]; rfl) (Steps.refl _) (argsL := [(.ref b11)]) (rest := []) (lenOf pd_6 rfl) rfl (by show 2 * 0 + _ ≤ _; exact Nat.le_of_eq rfl) (hb hby at_127) (fun _ _ => ⟨rfl, E15, (own_le rfl), (own_le rfl)⟩)
    dsimp only [Pt.U, Pt.locs, Pt.cells, Pt.slots] at X16 l16 y16 z16 st16 hQ16
    subst l16 y16 z16
    obtain ⟨rfl, N16q, E16⟩ := hQ16
    have N16 := Fr.app N15 N16q
    refine own_tr st16 ?_
    show own_Ends _ _ _ _ (T16.setTop (mkF m 130 #[.val (.int z1), .val (.int 0), .val (.ref b2), .val (.ref b11), .val (.ref c1), .val (.ref c1)] [(.int 1)]))
    refine own_to (fun _ kont => XS.ifNo X16.here hx rfl (hb hby at_130) rfl ((if0 _ _).trans (feq (by decide)).1) kont) ?_
    show own_Ends _ _ _ _ (T16.setTop (mkF m 133 #[.val (.int z1), .val (.int 0), .val (.ref b2), .val (.ref b11), .val (.ref c1), .val (.ref c1)] []))
    refine own_to (fun _ kont => XS.iconst X16.here hx rfl (hb hby at_133) kont) ?_
    show own_Ends _ _ _ _ (T16.setTop (mkF m 134 #[.val (.int z1), .val (.int 0), .val (.ref b2), .val (.ref b11), .val (.ref c1), .val (.ref c1)] [(.int 1)]))
    refine own_to (fun _ kont => XS.goto X16.here hx rfl (pc0 := 134) (pc' := 138) rfl (hb hby at_134) (by decide) (by decide) kont) ?_
    show own_Ends _ _ _ _ (T16.setTop (mkF m 138 #[.val (.int z1), .val (.int 0), .val (.ref b2), .val (.ref b11), .val (.ref c1), .val (.ref c1)] [(.int 1)]))
    refine own_leave X16 (v := some (.int (1 : Int32))) (fun h => by rw [Bd.returns] at h; cases h) ?_ (by decide) (by decide) (fun fs hr => retN X16 hx (t := .boolean) Bd.returns (by simp) (hb hby at_138) hr)
    show Q_rm0 Z z1 c0 c1 vs_ kv_ t0 t1 v0 v1 k0_ k1_ cs_ h0 n0 _ T16.heap _
    rw [E16]
    exact ⟨rfl, N16⟩
  · -- pc 3: not (z1 &&& (1 : Int32)) = (0 : Int32)
    refine own_to (fun _ kont => XS.ifNo X0.here hx rfl (hb hby at_3) rfl ((if0 _ _).trans (feq hc3_1).1) kont) ?_
    show own_Ends _ _ _ _ (s₁.setTop (mkF m 6 #[.val (.int z1), .unset, .unset, .unset, .unset, .unset] []))
    refine own_to (fun _ kont => XS.iconst X0.here hx rfl (hb hby at_6) kont) ?_
    show own_Ends _ _ _ _ (s₁.setTop (mkF m 7 #[.val (.int z1), .unset, .unset, .unset, .unset, .unset] [(.int 1)]))
    refine own_to (fun _ kont => XS.goto X0.here hx rfl (pc0 := 7) (pc' := 11) rfl (hb hby at_7) (by decide) (by decide) kont) ?_
    show own_Ends _ _ _ _ (s₁.setTop (mkF m 11 #[.val (.int z1), .unset, .unset, .unset, .unset, .unset] [(.int 1)]))
    refine own_to (fun _ kont => XS.istoreN X0.here hx rfl (hb hby at_11) rfl (l' := #[.val (.int z1), .val (.int (1 : Int32)), .unset, .unset, .unset, .unset]) rfl kont) ?_
    show own_Ends _ _ _ _ (s₁.setTop (mkF m 12 #[.val (.int z1), .val (.int 1), .unset, .unset, .unset, .unset] []))
    refine own_to (fun _ kont => XS.iloadN X0.here hx rfl (hb hby at_12) rfl kont) ?_
    show own_Ends _ _ _ _ (s₁.setTop (mkF m 13 #[.val (.int z1), .val (.int 1), .unset, .unset, .unset, .unset] [(.int 1)]))
    refine own_to (fun _ kont => XS.ifNo X0.here hx rfl (hb hby at_13) rfl ((if0 _ _).trans (feq (by decide)).1) kont) ?_
    show own_Ends _ _ _ _ (s₁.setTop (mkF m 16 #[.val (.int z1), .val (.int 1), .unset, .unset, .unset, .unset] []))
    refine own_to (fun _ kont => XS.iconst X0.here hx rfl (hb hby at_16) kont) ?_
    show own_Ends _ _ _ _ (s₁.setTop (mkF m 17 #[.val (.int z1), .val (.int 1), .unset, .unset, .unset, .unset] [(.int 3)]))
    obtain ⟨T17, h17, k17, X17, e17, E17, A17, st17⟩ := newP X0 hx hZ (aty := .char) (ow0 hw) e0 (g := (mkF m 17 #[.val (.int z1), .val (.int (1 : Int32)), .unset, .unset, .unset, .unset] [(.int (3 : Int32))])) rfl (hb hby at_17) rfl (by decide) (cap := 3) (by decide) (by decide) (by decide) (by decide)
    obtain ⟨b17, g17⟩ : ∃ z, z = h0.size := ⟨_, rfl⟩
    rw [← g17] at A17 st17
    have g_b17 : n0 ≤ b17 := Nat.le_trans (own_old_le O0) (Nat.le_of_eq g17.symm)
    refine own_to st17 ?_
    have O17 := O0.ext E17
    have Vn17 : Arv Z h17 b17 k17 .char (3 : Int32) [(.int (0 : Int32)), (.int (0 : Int32)), (.int (0 : Int32))] (.int (0 : Int32)) := (Arv.new A17 (by decide)).pad (pad_rep [] (.int (0 : Int32)) 3)
    show own_Ends _ _ _ _ (T17.setTop (mkF m 19 #[.val (.int z1), .val (.int 1), .unset, .unset, .unset, .unset] [(.ref b17)]))
    refine own_to (fun _ kont => XS.dup X17.here hx rfl (hb hby at_19) rfl rfl kont) ?_
    show own_Ends _ _ _ _ (T17.setTop (mkF m 20 #[.val (.int z1), .val (.int 1), .unset, .unset, .unset, .unset] [(.ref b17), (.ref b17)]))
    refine own_to (fun _ kont => XS.iconst X17.here hx rfl (hb hby at_20) kont) ?_
    show own_Ends _ _ _ _ (T17.setTop (mkF m 21 #[.val (.int z1), .val (.int 1), .unset, .unset, .unset, .unset] [(.int 0), (.ref b17), (.ref b17)]))
    refine own_to (fun _ kont => XS.bipush X17.here hx rfl (hb hby at_21) kont) ?_
    show own_Ends _ _ _ _ (T17.setTop (mkF m 23 #[.val (.int z1), .val (.int 1), .unset, .unset, .unset, .unset] [(.int 109), (.int 0), (.ref b17), (.ref b17)]))
    obtain ⟨cl18, Ar18, q18, S18, M18, H18, G18⟩ := id Vn17
    have hin18 : ¬ ((0 : Int32) < 0 ∨ cl18.slots.size ≤ ((0 : Int32)).toNatClampNeg) := inb_of S18 ⟨by decide, by decide⟩
    obtain ⟨T18, h18, X18, e18, W18, st18⟩ := stC X17 hx hZ e17 Ar18 (j := (0 : Int32)) hin18 (g := (mkF m 23 #[.val (.int z1), .val (.int (1 : Int32)), .unset, .unset, .unset, .unset] [(.int (109 : Int32)), (.int (0 : Int32)), (.ref b17), (.ref b17)])) rfl rfl (hb hby at_23)
    have Vs18 : Arv Z h18 b17 k17 .char (3 : Int32) [(.int (109 : Int32)), (.int (0 : Int32)), (.int (0 : Int32))] (.int (0 : Int32)) := Arv.set Ar18 q18 S18 M18 H18 G18 (fits_nar_char _) W18 0 rfl (own_lt rfl)
    refine own_to st18 ?_
    have O18 := O17.wr W18 g_b17
    have N18 := Fr.snoc X18 N0 g_b17
    show own_Ends _ _ _ _ (T18.setTop (mkF m 24 #[.val (.int z1), .val (.int 1), .unset, .unset, .unset, .unset] [(.ref b17)]))
    refine own_to (fun _ kont => XS.dup X18.here hx rfl (hb hby at_24) rfl rfl kont) ?_
    show own_Ends _ _ _ _ (T18.setTop (mkF m 25 #[.val (.int z1), .val (.int 1), .unset, .unset, .unset, .unset] [(.ref b17), (.ref b17)]))
    refine own_to (fun _ kont => XS.iconst X18.here hx rfl (hb hby at_25) kont) ?_
    show own_Ends _ _ _ _ (T18.setTop (mkF m 26 #[.val (.int z1), .val (.int 1), .unset, .unset, .unset, .unset] [(.int 1), (.ref b17), (.ref b17)]))
    refine own_to (fun _ kont => XS.bipush X18.here hx rfl (hb hby at_26) kont) ?_
    show own_Ends _ _ _ _ (T18.setTop (mkF m 28 #[.val (.int z1), .val (.int 1), .unset, .unset, .unset, .unset] [(.int 115), (.int 1), (.ref b17), (.ref b17)]))
    obtain ⟨cl19, Ar19, q19, S19, M19, H19, G19⟩ := id Vs18
    have hin19 : ¬ ((1 : Int32) < 0 ∨ cl19.slots.size ≤ ((1 : Int32)).toNatClampNeg) := inb_of S19 ⟨by decide, by decide⟩
    obtain ⟨T19, h19, X19, e19, W19, st19⟩ := stC X18 hx hZ e18 Ar19 (j := (1 : Int32)) hin19 (g := (mkF m 28 #[.val (.int z1), .val (.int (1 : Int32)), .unset, .unset, .unset, .unset] [(.int (115 : Int32)), (.int (1 : Int32)), (.ref b17), (.ref b17)])) rfl rfl (hb hby at_28)
    have Vs19 : Arv Z h19 b17 k17 .char (3 : Int32) [(.int (109 : Int32)), (.int (115 : Int32)), (.int (0 : Int32))] (.int (0 : Int32)) := Arv.set Ar19 q19 S19 M19 H19 G19 (fits_nar_char _) W19 1 rfl (own_lt rfl)
    refine own_to st19 ?_
    have O19 := O18.wr W19 g_b17
    have N19 := Fr.snoc X19 N18 g_b17
    show own_Ends _ _ _ _ (T19.setTop (mkF m 29 #[.val (.int z1), .val (.int 1), .unset, .unset, .unset, .unset] [(.ref b17)]))
    refine own_to (fun _ kont => XS.dup X19.here hx rfl (hb hby at_29) rfl rfl kont) ?_
    show own_Ends _ _ _ _ (T19.setTop (mkF m 30 #[.val (.int z1), .val (.int 1), .unset, .unset, .unset, .unset] [(.ref b17), (.ref b17)]))
    refine own_to (fun _ kont => XS.iconst X19.here hx rfl (hb hby at_30) kont) ?_
    show own_Ends _ _ _ _ (T19.setTop (mkF m 31 #[.val (.int z1), .val (.int 1), .unset, .unset, .unset, .unset] [(.int 2), (.ref b17), (.ref b17)]))
    refine own_to (fun _ kont => XS.bipush X19.here hx rfl (hb hby at_31) kont) ?_
    show own_Ends _ _ _ _ (T19.setTop (mkF m 33 #[.val (.int z1), .val (.int 1), .unset, .unset, .unset, .unset] [(.int 105), (.int 2), (.ref b17), (.ref b17)]))
    obtain ⟨cl20, Ar20, q20, S20, M20, H20, G20⟩ := id Vs19
    have hin20 : ¬ ((2 : Int32) < 0 ∨ cl20.slots.size ≤ ((2 : Int32)).toNatClampNeg) := inb_of S20 ⟨by decide, by decide⟩
    obtain ⟨T20, h20, X20, e20, W20, st20⟩ := stC X19 hx hZ e19 Ar20 (j := (2 : Int32)) hin20 (g := (mkF m 33 #[.val (.int z1), .val (.int (1 : Int32)), .unset, .unset, .unset, .unset] [(.int (105 : Int32)), (.int (2 : Int32)), (.ref b17), (.ref b17)])) rfl rfl (hb hby at_33)
    have Vs20 : Arv Z h20 b17 k17 .char (3 : Int32) [(.int (109 : Int32)), (.int (115 : Int32)), (.int (105 : Int32))] (.int (0 : Int32)) := Arv.set Ar20 q20 S20 M20 H20 G20 (fits_nar_char _) W20 2 rfl (own_lt rfl)
    refine own_to st20 ?_
    have O20 := O19.wr W20 g_b17
    have N20 := Fr.snoc X20 N19 g_b17
    show own_Ends _ _ _ _ (T20.setTop (mkF m 34 #[.val (.int z1), .val (.int 1), .unset, .unset, .unset, .unset] [(.ref b17)]))
    refine own_to (fun _ kont => XS.goto X20.here hx rfl (pc0 := 34) (pc' := 83) rfl (hb hby at_34) (by decide) (by decide) kont) ?_
    show own_Ends _ _ _ _ (T20.setTop (mkF m 83 #[.val (.int z1), .val (.int 1), .unset, .unset, .unset, .unset] [(.ref b17)]))
    refine own_to (fun _ kont => XS.astoreN X20.here hx rfl (hb hby at_83) rfl rfl (l' := #[.val (.int z1), .val (.int (1 : Int32)), .val (.ref b17), .unset, .unset, .unset]) rfl kont) ?_
    show own_Ends _ _ _ _ (T20.setTop (mkF m 84 #[.val (.int z1), .val (.int 1), .val (.ref b17), .unset, .unset, .unset] []))
    obtain ⟨T21, h21, X21, e21, E21, A21, D21, U21, st21⟩ := newO X20 hx hZ hown (ow1 hw) (ow2 hw) (ow3 hw) e20 (g := (mkF m 84 #[.val (.int z1), .val (.int (1 : Int32)), .val (.ref b17), .unset, .unset, .unset] [])) rfl (hb hby at_84) (by decide) (by decide)
    obtain ⟨b21, g21⟩ : ∃ z, z = h20.size := ⟨_, rfl⟩
    rw [← g21] at A21 D21 st21
    have ne_b17_b21 : b17 ≠ b21 := Nat.ne_of_lt (Nat.lt_of_lt_of_le Vs20.lt (Nat.le_of_eq g21.symm))
    have g_b21 : n0 ≤ b21 := Nat.le_trans (own_old_le O20) (Nat.le_of_eq g21.symm)
    refine own_to st21 ?_
    have O21 := O20.ext E21
    have Fd21_coder : Fld Z h21 b21 "java/lang/String" "coder" "B" (.int (0 : Int32)) := D21 (Or.inr (ow27 hw)) (ty := .byte) (by decide)
    have Fd21_value : Fld Z h21 b21 "java/lang/String" "value" "[B" .null := D21 (Or.inr (ow29 hw)) (ty := (.array .byte)) (by decide)
    show own_Ends _ _ _ _ (T21.setTop (mkF m 87 #[.val (.int z1), .val (.int 1), .val (.ref b17), .unset, .unset, .unset] [(.ref b21)]))
    refine own_to (fun _ kont => XS.dup X21.here hx rfl (hb hby at_87) rfl rfl kont) ?_
    show own_Ends _ _ _ _ (T21.setTop (mkF m 88 #[.val (.int z1), .val (.int 1), .val (.ref b17), .unset, .unset, .unset] [(.ref b21), (.ref b21)]))
    refine own_to (fun _ kont => XS.aloadN X21.here hx rfl (hb hby at_88) rfl rfl kont) ?_
    show own_Ends _ _ _ _ (T21.setTop (mkF m 89 #[.val (.int z1), .val (.int 1), .val (.ref b17), .unset, .unset, .unset] [(.ref b17), (.ref b21), (.ref b21)]))
    obtain ⟨_, _, ⟨T22, L22, k22, n22⟩, -, X22, ⟨Lc22, hQ22, l22, y22, z22⟩, st22⟩ := X21.specialBack hx (y := oM4) rfl hown (mvT hZ (ow4 hw)) (mvT hZ (ow5 hw)) (mvT hZ (ow6 hw)) (by decide) (backOf (W := 1) (in1A l Z a0 hw [] b21 b17 k17 cs_ h21 n0 O21 g_b21 A21 Fd21_value Fd21_coder (Vs20.ext E21) ne_b17_b21 S_cs hcs) hZ (ow6 hw) (ow3 hw) (by decide) (by decide)) (g := (mkF m 89 #[.val (.int z1), .val (.int (1 : Int32)), .val (.ref b17), .unset, .unset, .unset] [(.ref b17), (.ref b21), (.ref b21)])) rfl (by rw [hml]; rfl) (Steps.refl _) (a := b21) (argsL := [(.ref b17)]) (rest := [(.ref b21)]) (lenOf pd_7 rfl) rfl (by show 2 * 0 + _ ≤ _; exact Nat.le_of_eq rfl) (hb hby at_89) (fun _ _ => ⟨rfl, e21, (own_le rfl), (own_le rfl)⟩)
    dsimp only [Pt.U, Pt.locs, Pt.cells, Pt.slots] at X22 l22 y22 z22 st22 hQ22
    subst l22 y22 z22
    obtain ⟨rfl, N22q, Oq22, Kq22, Ex22, Fc22, u22, ku22, g_u22, sq_u22, Fv22, Vx22⟩ := hQ22
    have N22 := Fr.app N20 N22q
    have ne_b17_u22 : b17 ≠ u22 := Nat.ne_of_lt (Nat.lt_of_lt_of_le (Vs20.ext E21).lt sq_u22)
    have ne_b21_u22 : b21 ≠ u22 := Nat.ne_of_lt (Nat.lt_of_lt_of_le A21.lt sq_u22)
    refine own_tr st22 ?_
    show own_Ends _ _ _ _ (T22.setTop (mkF m 92 #[.val (.int z1), .val (.int 1), .val (.ref b17), .unset, .unset, .unset] [(.ref b21)]))
    refine own_to (fun _ kont => XS.astoreN X22.here hx rfl (hb hby at_92) rfl rfl (l' := #[.val (.int z1), .val (.int (1 : Int32)), .val (.ref b17), .val (.ref b21), .unset, .unset]) rfl kont) ?_
    show own_Ends _ _ _ _ (T22.setTop (mkF m 93 #[.val (.int z1), .val (.int 1), .val (.ref b17), .val (.ref b21), .unset, .unset] []))
    refine own_to (fun _ kont => XS.iloadN X22.here hx rfl (hb hby at_93) rfl kont) ?_
    show own_Ends _ _ _ _ (T22.setTop (mkF m 94 #[.val (.int z1), .val (.int 1), .val (.ref b17), .val (.ref b21), .unset, .unset] [(.int 1)]))
    refine own_to (fun _ kont => XS.ifNo X22.here hx rfl (hb hby at_94) rfl ((if0 _ _).trans (feq (by decide)).1) kont) ?_
    show own_Ends _ _ _ _ (T22.setTop (mkF m 97 #[.val (.int z1), .val (.int 1), .val (.ref b17), .val (.ref b21), .unset, .unset] []))
    obtain ⟨T23, X23, e23, st23⟩ := getS2 X22 hx hZ hown (host := "") (Or.inl (ow70 hw)) Via.refl rfl (S_c0.ext Oq22.2) (g := (mkF m 97 #[.val (.int z1), .val (.int (1 : Int32)), .val (.ref b17), .val (.ref b21), .unset, .unset] [])) rfl (hb hby at_97)
    refine own_to st23 ?_
    show own_Ends _ _ _ _ (T23.setTop (mkF m 100 #[.val (.int z1), .val (.int 1), .val (.ref b17), .val (.ref b21), .unset, .unset] [(.ref c0)]))
    refine own_to (fun _ kont => XS.goto X23.here hx rfl (pc0 := 100) (pc' := 106) rfl (hb hby at_100) (by decide) (by decide) kont) ?_
    show own_Ends _ _ _ _ (T23.setTop (mkF m 106 #[.val (.int z1), .val (.int 1), .val (.ref b17), .val (.ref b21), .unset, .unset] [(.ref c0)]))
    refine own_to (fun _ kont => XS.astore X23.here hx rfl (hb hby at_106) rfl rfl (l' := #[.val (.int z1), .val (.int (1 : Int32)), .val (.ref b17), .val (.ref b21), .val (.ref c0), .unset]) rfl kont) ?_
    show own_Ends _ _ _ _ (T23.setTop (mkF m 108 #[.val (.int z1), .val (.int 1), .val (.ref b17), .val (.ref b21), .val (.ref c0), .unset] []))
    refine own_to (fun _ kont => XS.aloadN X23.here hx rfl (hb hby at_108) rfl rfl kont) ?_
    show own_Ends _ _ _ _ (T23.setTop (mkF m 109 #[.val (.int z1), .val (.int 1), .val (.ref b17), .val (.ref b21), .val (.ref c0), .unset] [(.ref b21)]))
    obtain ⟨_, _, ⟨T24, L24, k24, n24⟩, -, X24, ⟨Lc24, hQ24, l24, y24, z24⟩, st24⟩ := Jvm.LawKit.callS X23 hx (y := oM8) hown (mvT hZ (ow33 hw)) (mvT hZ (ow34 hw)) (mvT hZ (ow31 hw)) (mvT hZ (ow35 hw)) (by decide) (backOf (W := 0) (rmFA l Z a0 hw [] b21 c0 c1 vs_ kv_ t0 t1 v0 v1 k0_ k1_ u22 ku22 cs_ T22.heap n0 Oq22 S_vs V_vs E_vs F_t0 E_t0 F_c0 F_v0 V_v0 F_t1 E_t1 F_c1 F_v1 V_v1 S_cs hcs (Oq22.ne E_t0.lt g_b21) (Oq22.ne E_t1.lt g_b21) Ex22 Fv22 Fc22 Vx22) hZ (ow35 hw) (ow31 hw) (by decide) (by decide)) (g := (mkF m 109 #[.val (.int z1), .val (.int (1 : Int32)), .val (.ref b17), .val (.ref b21), .val (.ref c0), .unset] [(.ref b21)])) rfl (by rw [hml]; rfl) (argsL := [(.ref b21)]) (rest := []) (lenOf pd_8 rfl) rfl (by show 2 * 0 + _ ≤ _; exact Nat.le_of_eq rfl) (hb hby at_109) (fun _ _ => ⟨rfl, e23, (own_le rfl), (own_le rfl)⟩)
    dsimp only [Pt.U, Pt.locs, Pt.cells, Pt.slots] at X24 l24 y24 z24 st24 hQ24
    subst l24 y24 z24
    obtain ⟨rfl, N24q, Oq24, Kq24⟩ := hQ24
    have N24 := Fr.app N22 N24q
    refine own_to st24 ?_
    show own_Ends _ _ _ _ (T24.setTop (mkF m 112 #[.val (.int z1), .val (.int 1), .val (.ref b17), .val (.ref b21), .val (.ref c0), .unset] [(.ref c0)]))
    refine own_to (fun _ kont => XS.astore X24.here hx rfl (hb hby at_112) rfl rfl (l' := #[.val (.int z1), .val (.int (1 : Int32)), .val (.ref b17), .val (.ref b21), .val (.ref c0), .val (.ref c0)]) rfl kont) ?_
    show own_Ends _ _ _ _ (T24.setTop (mkF m 114 #[.val (.int z1), .val (.int 1), .val (.ref b17), .val (.ref b21), .val (.ref c0), .val (.ref c0)] []))
    refine own_to (fun _ kont => XS.aload X24.here hx rfl (hb hby at_114) rfl rfl kont) ?_
    show own_Ends _ _ _ _ (T24.setTop (mkF m 116 #[.val (.int z1), .val (.int 1), .val (.ref b17), .val (.ref b21), .val (.ref c0), .val (.ref c0)] [(.ref c0)]))
    refine own_to (fun _ kont => XS.aload X24.here hx rfl (hb hby at_116) rfl rfl kont) ?_
    show own_Ends _ _ _ _ (T24.setTop (mkF m 118 #[.val (.int z1), .val (.int 1), .val (.ref b17), .val (.ref b21), .val (.ref c0), .val (.ref c0)] [(.ref c0), (.ref c0)]))
    refine own_to (fun _ kont => Jvm.RoadKit.acmp (g := (mkF m 118 #[.val (.int z1), .val (.int (1 : Int32)), .val (.ref b17), .val (.ref b21), .val (.ref c0), .val (.ref c0)] [(.ref c0), (.ref c0)])) X24 hx rfl rfl rfl (pc0 := 118) (pc' := 121) (same := true) rfl (hb hby at_118) rfl (decide_eq_true rfl) (by decide) (by decide) kont) ?_
    show own_Ends _ _ _ _ (T24.setTop (mkF m 121 #[.val (.int z1), .val (.int 1), .val (.ref b17), .val (.ref b21), .val (.ref c0), .val (.ref c0)] []))
    refine own_to (fun _ kont => XS.aload X24.here hx rfl (hb hby at_121) rfl rfl kont) ?_
    show own_Ends _ _ _ _ (T24.setTop (mkF m 123 #[.val (.int z1), .val (.int 1), .val (.ref b17), .val (.ref b21), .val (.ref c0), .val (.ref c0)] [(.ref c0)]))
    obtain ⟨cq25, kq25, q25a, q25b, q25c⟩ := isOf hZ rfl (E_c0.ext Oq24.2)
    obtain ⟨_, _, ⟨T25, L25, k25, n25⟩, -, X25, ⟨Lc25, hQ25, l25, y25, z25⟩, st25⟩ := X24.virtualBack hx (y := oM9) (z := oM9) hown (mvT hZ (ow64 hw)) (mvT hZ (ow65 hw)) (notFace_of_selects (args := #[]) (mvT hZ (ow67 hw))) (mvT hZ (ow67 hw)) (mvT hZ (ow66 hw)) (by decide) (backOf (W := 0) (rmT l Z a0 hw [] c0 t0 T24.heap n0 Oq24 F_t0) hZ (ow68 hw) (ow31 hw) (by decide) (by decide)) q25a q25c (g := (mkF m 123 #[.val (.int z1), .val (.int (1 : Int32)), .val (.ref b17), .val (.ref b21), .val (.ref c0), .val (.ref c0)] [(.ref c0)])) rfl (by rw [hml]; rfl) (Steps.refl _) (argsL := []) (rest := []) (lenOf pd_9 rfl) rfl (by show 2 * 0 + _ ≤ _; exact Nat.le_of_eq rfl) (hb hby at_123) (fun _ _ => ⟨rfl, rfl, (own_le rfl), (own_le rfl)⟩)
    dsimp only [Pt.U, Pt.locs, Pt.cells, Pt.slots] at X25 l25 y25 z25 st25 hQ25
    subst l25 y25 z25
    obtain ⟨rfl, N25q, E25⟩ := hQ25
    have N25 := Fr.app N24 N25q
    refine own_tr st25 ?_
    show own_Ends _ _ _ _ (T25.setTop (mkF m 126 #[.val (.int z1), .val (.int 1), .val (.ref b17), .val (.ref b21), .val (.ref c0), .val (.ref c0)] [(.ref t0)]))
    refine own_to (fun _ kont => XS.aloadN X25.here hx rfl (hb hby at_126) rfl rfl kont) ?_
    show own_Ends _ _ _ _ (T25.setTop (mkF m 127 #[.val (.int z1), .val (.int 1), .val (.ref b17), .val (.ref b21), .val (.ref c0), .val (.ref c0)] [(.ref b21), (.ref t0)]))
    obtain ⟨cq26, kq26, q26a, q26b, q26c⟩ := isOf hZ E25 (E_t0.ext Oq24.2)
    obtain ⟨_, _, ⟨T26, L26, k26, n26⟩, -, X26, ⟨Lc26, hQ26, l26, y26, z26⟩, st26⟩ := X25.virtualBack hx (y := oM6) (z := oM6) hown (mvT hZ (ow69 hw)) (mvT hZ (ow55 hw)) (notFace_of_selects (args := #[]) (mvT hZ (ow57 hw))) (mvT hZ (ow57 hw)) (mvT hZ (ow56 hw)) (by decide) (backOf (W := 0) (seqAA l Z a0 hw [] t0 b21 v0 u22 k0_ ku22 cs_ T24.heap n0 Oq24 (Oq24.ne E_t0.lt g_b21) (Ex22.keep Kq24) (F_v0.ext Oq24.2) (Fv22.keep Kq24 nin0) (F_c0.ext Oq24.2) (Fc22.keep Kq24 nin0) (V_v0.ext Oq24.2) (Vx22.keep Kq24 nin0) S_cs hcs) hZ (ow58 hw) (ow3 hw) (by decide) (by decide)) q26a q26c (g := (mkF m 127 #[.val (.int z1), .val (.int (1 : Int32)), .val (.ref b17), .val (.ref b21), .val (.ref c0), .val (.ref c0)] [(.ref b21), (.ref t0)])) rfl (by rw [hml]; rfl) (Steps.refl _) (argsL := [(.ref b21)]) (rest := []) (lenOf pd_6 rfl) rfl (by show 2 * 0 + _ ≤ _; exact Nat.le_of_eq rfl) (hb hby at_127) (fun _ _ => ⟨rfl, E25, (own_le rfl), (own_le rfl)⟩)
    dsimp only [Pt.U, Pt.locs, Pt.cells, Pt.slots] at X26 l26 y26 z26 st26 hQ26
    subst l26 y26 z26
    obtain ⟨rfl, N26q, E26⟩ := hQ26
    have N26 := Fr.app N25 N26q
    refine own_tr st26 ?_
    show own_Ends _ _ _ _ (T26.setTop (mkF m 130 #[.val (.int z1), .val (.int 1), .val (.ref b17), .val (.ref b21), .val (.ref c0), .val (.ref c0)] [(.int 1)]))
    refine own_to (fun _ kont => XS.ifNo X26.here hx rfl (hb hby at_130) rfl ((if0 _ _).trans (feq (by decide)).1) kont) ?_
    show own_Ends _ _ _ _ (T26.setTop (mkF m 133 #[.val (.int z1), .val (.int 1), .val (.ref b17), .val (.ref b21), .val (.ref c0), .val (.ref c0)] []))
    refine own_to (fun _ kont => XS.iconst X26.here hx rfl (hb hby at_133) kont) ?_
    show own_Ends _ _ _ _ (T26.setTop (mkF m 134 #[.val (.int z1), .val (.int 1), .val (.ref b17), .val (.ref b21), .val (.ref c0), .val (.ref c0)] [(.int 1)]))
    refine own_to (fun _ kont => XS.goto X26.here hx rfl (pc0 := 134) (pc' := 138) rfl (hb hby at_134) (by decide) (by decide) kont) ?_
    show own_Ends _ _ _ _ (T26.setTop (mkF m 138 #[.val (.int z1), .val (.int 1), .val (.ref b17), .val (.ref b21), .val (.ref c0), .val (.ref c0)] [(.int 1)]))
    refine own_leave X26 (v := some (.int (1 : Int32))) (fun h => by rw [Bd.returns] at h; cases h) ?_ (by decide) (by decide) (fun fs hr => retN X26 hx (t := .boolean) Bd.returns (by simp) (hb hby at_138) hr)
    show Q_rm0 Z z1 c0 c1 vs_ kv_ t0 t1 v0 v1 k0_ k1_ cs_ h0 n0 _ T26.heap _
    rw [E26]
    exact ⟨rfl, N26⟩
set_option maxRecDepth 65536 in
set_option maxHeartbeats 40000000 in
theorem comes_1 {Post : Tables → Env → Array Value → State → Outcome → State → Prop} (hpost : ∀ tb e args s v u, (limb_1_1.after args s (.returned v) u = true ∧ limb_1_2.after args s (.returned v) u = true ∧ True) → FrameEnd s (.returned v) u (Jvm.fieldLocs frame_1_writes args s ++ Jvm.arrayLocs frame_1_arrays args s ++ Jvm.staticLocs frame_1_statics s) 16 128 → Post tb e args s (.returned v) u) :
    ArmFor flags0 classFile x code maxLocals ret World_1 tables_1 room_1 Calls_1 rest_1 Pre_1 Post := by
  intro l hfl _ _ p e ha hc hk s m args below hf hA hF happ hP
  obtain ⟨hcalls, hrest, hpre⟩ := hP
  obtain ⟨-, -, -, hnamed, -, -, -, hat⟩ := (Spec.applies_iff hf).mp happ
  obtain ⟨hg, hn⟩ := and_e (Cond.before_iff.mp (show (Jvm.Cond.and given_1 narrow_1).before args s = true from hpre))
  obtain ⟨gc0, hg0⟩ := and_e hg
  have gc1 := hg0
  obtain ⟨nc0, hn0⟩ := and_e hn
  obtain ⟨nc1, hn1⟩ := and_e hn0
  obtain ⟨nc2, hn2⟩ := and_e hn1
  obtain ⟨nc3, hn3⟩ := and_e hn2
  obtain ⟨nc4, hn4⟩ := and_e hn3
  obtain ⟨nc5, hn5⟩ := and_e hn4
  obtain ⟨nc6, hn6⟩ := and_e hn5
  obtain ⟨nc7, hn7⟩ := and_e hn6
  obtain ⟨nc8, hn8⟩ := and_e hn7
  obtain ⟨nc9, hn9⟩ := and_e hn8
  obtain ⟨nc10, hn10⟩ := and_e hn9
  obtain ⟨nc11, hn11⟩ := and_e hn10
  obtain ⟨nc12, hn12⟩ := and_e hn11
  obtain ⟨nc13, hn13⟩ := and_e hn12
  obtain ⟨nc14, hn14⟩ := and_e hn13
  obtain ⟨nc15, hn15⟩ := and_e hn14
  obtain ⟨nc16, hn16⟩ := and_e hn15
  obtain ⟨nc17, hn17⟩ := and_e hn16
  obtain ⟨nc18, hn18⟩ := and_e hn17
  obtain ⟨nc19, hn19⟩ := and_e hn18
  obtain ⟨nc20, hn20⟩ := and_e hn19
  obtain ⟨nc21, hn21⟩ := and_e hn20
  obtain ⟨nc22, hn22⟩ := and_e hn21
  obtain ⟨nc23, hn23⟩ := and_e hn22
  obtain ⟨nc24, hn24⟩ := and_e hn23
  have nc25 := hn24
  obtain ⟨w0, rfl⟩ : ∃ w0 : Value, args = #[w0] := by
    have hs : args.size = 1 := by simpa [Cond.value, given_1] using gc0
    obtain ⟨L⟩ := args
    match L, hs with
    | [w0], _ => exact ⟨w0, rfl⟩
  have hw := fun d (hd : d ∈ tables_1) => atoms_spec (ws := Jvm.Cond.code x code maxLocals ret :: tables_1) hat d (List.mem_cons_of_mem _ hd)
  have hfit : Fit s := fun {y c} hc i hi => by
    obtain ⟨ha, rfl⟩ := Array.getElem?_eq_some_iff.mp hc
    have q := List.all_eq_true.mp ((Array.all_eq_true_iff_forall_mem.mp hF) _ (Array.getElem_mem ha)) i (List.mem_range.mpr hi)
    simpa [Array.getElem?_eq_getElem hi] using q
  obtain ⟨hsets, hown0⟩ := atoms_of _ (rest_1_c_eq ▸ (show rest_1_c.before _ s = true from hrest))
  obtain ⟨i0, ei0⟩ := is_v gc1
  obtain rfl : w0 = (.int i0) := Option.some.inj ei0
  obtain ⟨c1, ev_c1⟩ := exa_v nc0
  have E_c1 : Exa s s.heap c1 "com/example/ship_shore_exchange/shipshoreexchange/model/Role" := Exa.start ev_c1 nc0
  have S_c1 : Sta s s.heap "com/example/ship_shore_exchange/shipshoreexchange/model/Role" "REGISTRY" "Lcom/example/ship_shore_exchange/shipshoreexchange/model/Role;" (.ref c1) := Sta.start ev_c1 (Or.inr ⟨(ow31 hw), (ow32 hw)⟩)
  obtain ⟨vs_, ev_vs_⟩ := exa_v nc2
  have E_vs_ : Exa s s.heap vs_ "[Lcom/example/ship_shore_exchange/shipshoreexchange/model/Role;" := Exa.start ev_vs_ nc2
  have S_vs_ : Sta s s.heap "com/example/ship_shore_exchange/shipshoreexchange/model/Role" "$VALUES" "[Lcom/example/ship_shore_exchange/shipshoreexchange/model/Role;" (.ref vs_) := Sta.start ev_vs_ (Or.inr ⟨(ow31 hw), (ow40 hw)⟩)
  obtain ⟨c0, ev_c0⟩ := exa_v nc4
  have E_c0 : Exa s s.heap c0 "com/example/ship_shore_exchange/shipshoreexchange/model/Role" := Exa.start ev_c0 nc4
  have S_c0 : Sta s s.heap "com/example/ship_shore_exchange/shipshoreexchange/model/Role" "MSI" "Lcom/example/ship_shore_exchange/shipshoreexchange/model/Role;" (.ref c0) := Sta.start ev_c0 (Or.inr ⟨(ow31 hw), (ow48 hw)⟩)
  obtain ⟨cl_vs, Ar_vs⟩ := Arr.start ev_vs_ nc1
  have ln_vs := own_len ev_vs_ Ar_vs.1 (own_eqI nc3)
  have el0 := (elem_in (own_eqR ev_c0 nc5) ev_vs_ (show (Term.int (0 : Int32)).eval _ s none [] s = some (.int (0 : Int32)) from rfl) Ar_vs.1).2
  have el1 := (elem_in (own_eqR ev_c1 nc6) ev_vs_ (show (Term.int (1 : Int32)).eval _ s none [] s = some (.int (1 : Int32)) from rfl) Ar_vs.1).2
  have V_vs : Arv s s.heap vs_ cl_vs.cls (.object "com/example/ship_shore_exchange/shipshoreexchange/model/Role") (2 : Int32) [(.ref c0), (.ref c1)] .null := Arv.start hfit Ar_vs ln_vs.1 ln_vs.2 (by decide) (show Int32.toNatClampNeg 2 = 2 by decide) ⟨el0, el1, trivial⟩
  obtain ⟨t0, ev_t0⟩ := exa_v nc7
  have E_t0 : Exa s s.heap t0 "java/lang/String" := Exa.start ev_t0 nc7
  have F_t0 : Fld s s.heap c0 "com/example/ship_shore_exchange/shipshoreexchange/model/Role" "text" "Ljava/lang/String;" (.ref t0) := Fld.start ((fld_at ev_c0).symm.trans ev_t0)
  have F_c0 : Fld s s.heap t0 "java/lang/String" "coder" "B" (.int (0 : Int32)) := Fld.start ((fld_at ev_t0).symm.trans (own_eqI nc8))
  obtain ⟨v0, ev_v0⟩ := arr_v nc9
  obtain ⟨cl_0, Ar_0⟩ := Arr.start ev_v0 nc9
  have F_v0 : Fld s s.heap t0 "java/lang/String" "value" "[B" (.ref v0) := Fld.start ((fld_at ev_t0).symm.trans ev_v0)
  have ln_0 := own_len ev_v0 Ar_0.1 (own_eqI nc10)
  have el_0_0 := (elem_in (own_eqI nc15) ev_v0 (show (Term.int (0 : Int32)).eval _ s none [] s = some (.int (0 : Int32)) from rfl) Ar_0.1).2
  have el_0_1 := (elem_in (own_eqI nc16) ev_v0 (show (Term.int (1 : Int32)).eval _ s none [] s = some (.int (1 : Int32)) from rfl) Ar_0.1).2
  have el_0_2 := (elem_in (own_eqI nc17) ev_v0 (show (Term.int (2 : Int32)).eval _ s none [] s = some (.int (2 : Int32)) from rfl) Ar_0.1).2
  have V_v0 : Arv s s.heap v0 cl_0.cls .byte (3 : Int32) [(.int (109 : Int32)), (.int (115 : Int32)), (.int (105 : Int32))] (.int (0 : Int32)) := Arv.start hfit Ar_0 ln_0.1 ln_0.2 (by decide) (by decide) ⟨el_0_0, el_0_1, el_0_2, trivial⟩
  obtain ⟨t1, ev_t1⟩ := exa_v nc11
  have E_t1 : Exa s s.heap t1 "java/lang/String" := Exa.start ev_t1 nc11
  have F_t1 : Fld s s.heap c1 "com/example/ship_shore_exchange/shipshoreexchange/model/Role" "text" "Ljava/lang/String;" (.ref t1) := Fld.start ((fld_at ev_c1).symm.trans ev_t1)
  have F_c1 : Fld s s.heap t1 "java/lang/String" "coder" "B" (.int (0 : Int32)) := Fld.start ((fld_at ev_t1).symm.trans (own_eqI nc12))
  obtain ⟨v1, ev_v1⟩ := arr_v nc13
  obtain ⟨cl_1, Ar_1⟩ := Arr.start ev_v1 nc13
  have F_v1 : Fld s s.heap t1 "java/lang/String" "value" "[B" (.ref v1) := Fld.start ((fld_at ev_t1).symm.trans ev_v1)
  have ln_1 := own_len ev_v1 Ar_1.1 (own_eqI nc14)
  have el_1_0 := (elem_in (own_eqI nc18) ev_v1 (show (Term.int (0 : Int32)).eval _ s none [] s = some (.int (0 : Int32)) from rfl) Ar_1.1).2
  have el_1_1 := (elem_in (own_eqI nc19) ev_v1 (show (Term.int (1 : Int32)).eval _ s none [] s = some (.int (1 : Int32)) from rfl) Ar_1.1).2
  have el_1_2 := (elem_in (own_eqI nc20) ev_v1 (show (Term.int (2 : Int32)).eval _ s none [] s = some (.int (2 : Int32)) from rfl) Ar_1.1).2
  have el_1_3 := (elem_in (own_eqI nc21) ev_v1 (show (Term.int (3 : Int32)).eval _ s none [] s = some (.int (3 : Int32)) from rfl) Ar_1.1).2
  have el_1_4 := (elem_in (own_eqI nc22) ev_v1 (show (Term.int (4 : Int32)).eval _ s none [] s = some (.int (4 : Int32)) from rfl) Ar_1.1).2
  have el_1_5 := (elem_in (own_eqI nc23) ev_v1 (show (Term.int (5 : Int32)).eval _ s none [] s = some (.int (5 : Int32)) from rfl) Ar_1.1).2
  have el_1_6 := (elem_in (own_eqI nc24) ev_v1 (show (Term.int (6 : Int32)).eval _ s none [] s = some (.int (6 : Int32)) from rfl) Ar_1.1).2
  have el_1_7 := (elem_in (own_eqI nc25) ev_v1 (show (Term.int (7 : Int32)).eval _ s none [] s = some (.int (7 : Int32)) from rfl) Ar_1.1).2
  have V_v1 : Arv s s.heap v1 cl_1.cls .byte (8 : Int32) [(.int (114 : Int32)), (.int (101 : Int32)), (.int (103 : Int32)), (.int (105 : Int32)), (.int (115 : Int32)), (.int (116 : Int32)), (.int (114 : Int32)), (.int (121 : Int32))] (.int (0 : Int32)) := Arv.start hfit Ar_1 ln_1.1 ln_1.2 (by decide) (by decide) ⟨el_1_0, el_1_1, el_1_2, el_1_3, el_1_4, el_1_5, el_1_6, el_1_7, trivial⟩
  obtain ⟨cs_, ev_cs⟩ := is_v (Cond.before_iff.mp (hsets _ (List.mem_of_getElem? (i := 1) rfl)))
  have S_cs : Sta s s.heap "java/lang/String" "COMPACT_STRINGS" "Z" (.int cs_) := Sta.start ev_cs (Or.inl (hsets _ (List.mem_of_getElem? (i := 0) rfl)))
  have hcs : ¬ cs_ = (0 : Int32) := own_neqI ev_cs (Cond.before_iff.mp (hsets _ (List.mem_of_getElem? (i := 2) rfl)))
  obtain ⟨n, o, h1, h2, h3, _, L, rfl, ⟨rfl, N⟩, hq⟩ := rm0 l s _ hw tables_1 i0 c0 c1 vs_ cl_vs.cls t0 t1 v0 v1 cl_0.cls cl_1.cls cs_ s.heap s.heap.size (Old.start s) S_c0 S_c1 E_c0 E_c1 S_vs_ V_vs E_vs_ F_t0 E_t0 F_c0 F_v0 V_v0 F_t1 E_t1 F_c1 F_v1 V_v1 S_cs hcs p e ha hc hk s m _ below hf ((Spec.applies_iff_loose hf).mp happ).1 ⟨rfl, State.Warmed39.refl s, rfl⟩ trivial
  refine ⟨n, _, h1, h2, h3, hpost _ _ _ _ _ _ ⟨Cond.after_iff.mpr rfl, Cond.after_iff.mpr (eq_i res_at (Term.int_eval (1)) rfl), trivial⟩ ⟨hq.1, hq.2.1, (hq.2.2.sift fun y hy => Or.inr (N y hy)).mono (by decide) (by decide)⟩⟩
theorem main_1_1 : Claimed_1_1 := comes_1 fun _ _ _ _ _ _ h hF => ⟨h.1, hF⟩
theorem main_1_2 : Claimed_1_2 := comes_1 fun _ _ _ _ _ _ h hF => ⟨h.2.1, hF⟩
end Jvm.Pilot.@@N@@
namespace Jvm.Pilot.@@N@@
open Jvm Jvm.ClassFile Sem Op Lib Jvm.Free Jvm.Stand Jvm.Pilot.@@N@@.Jvm.D
/-! MADE BY PROGRAM (witnessworld.py) out of the Statement's table words and the real class files: 22 classes; the members and pool entries that the words name. The judged class is class 1, her method 1. -/
namespace start1
open Jvm.ClassFile
def u (s : String) : CpInfo := .utf8 (stringToUtf16 s)
/-- a pool by its gaps: so many unusable entries, then the entry; so many at the end -/
def gap : Nat → List CpInfo → List CpInfo
  | 0, r => r
  | n + 1, r => .unusable :: gap n r
def poolList (es : List (Nat × CpInfo)) (last : Nat) : List CpInfo := es.foldr (fun e r => gap e.1 (e.2 :: r)) (gap last [])
def pool (es : List (Nat × CpInfo)) (last : Nat) : Array CpInfo := ⟨poolList es last⟩
def fileOf (pool : Array CpInfo) (this : Nat) (attrs : Array Attribute := #[]) (ms : Array MethodInfo := #[]) (fl : Nat := 33) (sup : Nat := 0) (ifs : Array Nat := #[]) (fds : Array FieldInfo := #[]) : ClassFile where
  minorVersion := 0
  majorVersion := 65
  constantPool := pool
  accessFlags := fl
  thisClass := this
  superClass := sup
  interfaces := ifs
  fields := fds
  methods := ms
  attributes := attrs
def plain (name : String) (sup : Option ClassId) : Class where
  name := name
  kind := .ordinary
  loader := none
  accessFlags := 33
  super := sup
  interfaces := #[]
  cf := none
  fields := #[]
  methods := #[]
  instanceTypes := #[]
  staticTypes := #[]
  resolved := #[]
  callSites := []
  init := .initialized
  statics := none
  mirror := none

def pool0 : Array CpInfo := pool [(5, u "<init>"), (0, u "()V"), (1, .class_ 10), (1, u "java/lang/Object"), (85, u "clone"), (0, u "()Ljava/lang/Object;")] 26

def k0c0 : Code := { maxStack := 0, maxLocals := 1, code := object_method_1_code, exceptionTable := #[], attributes := #[] }
def k0m0 : Method := { name := "<init>", desc := "()V", sig := { parameters := [], returnType := none }, accessFlags := 1, code := some k0c0 }
def k0m1 : Method := { name := "clone", desc := "()Ljava/lang/Object;", sig := { parameters := [], returnType := some (.object "java/lang/Object") }, accessFlags := 260, code := none }
/-- java/lang/Object -/
def k0 : Class := { plain "java/lang/Object" none with
  accessFlags := 33
  interfaces := #[]
  cf := some (fileOf pool0 8 #[] #[{ accessFlags := 1, nameIndex := 5, descriptorIndex := 6, attributes := #[] }, { accessFlags := 260, nameIndex := 96, descriptorIndex := 97, attributes := #[] }] 33 0 #[] #[])
  fields := #[]
  methods := #[k0m0, k0m1]
  instanceTypes := #[]
  staticTypes := #[]
  resolved := Array.replicate 124 none
  statics := none }

def pool1 : Array CpInfo := pool [(2, .class_ 4), (1, u "java/lang/Object"), (0, u "<init>"), (0, u "()V"), (0, .class_ 8), (0, u "java/lang/String"), (0, .methodref 7 10), (0, .nameAndType 5 11), (0, u "([C)V"), (0, .fieldref 13 14), (0, .class_ 15), (0, .nameAndType 16 17), (0, u "com/example/ship_shore_exchange/shipshoreexchange/model/Role"), (0, u "MSI"), (0, u "Lcom/example/ship_shore_exchange/shipshoreexchange/model/Role;"), (0, .fieldref 13 19), (0, .nameAndType 20 17), (0, u "REGISTRY"), (0, .methodref 13 22), (0, .nameAndType 23 24), (0, u "fromText"), (0, u "(Ljava/lang/String;)Lcom/example/ship_shore_exchange/shipshoreexchange/model/Role;"), (0, .methodref 13 26), (0, .nameAndType 27 28), (0, u "text"), (0, u "()Ljava/lang/String;"), (0, .methodref 7 30), (0, .nameAndType 31 32), (0, u "equals"), (0, u "(Ljava/lang/Object;)Z"), (0, .class_ 34), (0, u "com/example/ship_shore_exchange/shipshoreexchange/model/RoleFromTextPinLaw"), (2, u "law"), (0, u "(I)Z")] 5

def k1m0 : Method := { name := "<init>", desc := "()V", sig := { parameters := [], returnType := none }, accessFlags := 1, code := none }
def k1c1 : Code := { maxStack := 4, maxLocals := 6, code := code, exceptionTable := #[], attributes := #[] }
def k1m1 : Method := { name := "law", desc := "(I)Z", sig := { parameters := [.int], returnType := some .boolean }, accessFlags := 9, code := some k1c1 }
/-- com/example/ship_shore_exchange/shipshoreexchange/model/RoleFromTextPinLaw -/
def k1 : Class := { plain "com/example/ship_shore_exchange/shipshoreexchange/model/RoleFromTextPinLaw" (some 0) with
  accessFlags := 49
  interfaces := #[]
  cf := some (fileOf pool1 33 #[] #[{ accessFlags := 1, nameIndex := 5, descriptorIndex := 6, attributes := #[] }, { accessFlags := 9, nameIndex := 37, descriptorIndex := 38, attributes := #[] }] 49 2 #[] #[])
  fields := #[]
  methods := #[k1m0, k1m1]
  instanceTypes := #[]
  staticTypes := #[]
  resolved := Array.replicate 44 none
  statics := none }

def pool2 : Array CpInfo := pool [(1, .class_ 2), (0, u "java/io/Serializable"), (0, .class_ 4), (0, u "java/lang/Object")] 2

/-- java/io/Serializable -/
def k2 : Class := { plain "java/io/Serializable" (some 0) with
  accessFlags := 1537
  interfaces := #[]
  cf := some (fileOf pool2 1 #[] #[] 1537 3 #[] #[])
  fields := #[]
  methods := #[]
  instanceTypes := #[]
  staticTypes := #[]
  resolved := Array.replicate 7 none
  statics := none }

def pool3 : Array CpInfo := pool [(1, .class_ 2), (0, u "java/lang/Comparable"), (0, .class_ 4), (0, u "java/lang/Object")] 7

/-- java/lang/Comparable -/
def k3 : Class := { plain "java/lang/Comparable" (some 0) with
  accessFlags := 1537
  interfaces := #[]
  cf := some (fileOf pool3 1 #[] #[] 1537 3 #[] #[])
  fields := #[]
  methods := #[]
  instanceTypes := #[]
  staticTypes := #[]
  resolved := Array.replicate 12 none
  statics := none }

def pool4 : Array CpInfo := pool [(2, .class_ 4), (1, u "java/lang/CharSequence"), (42, .class_ 48), (0, u "java/lang/CharSequence$1CodePointIterator"), (10, .class_ 60), (0, u "java/lang/CharSequence$1CharIterator"), (5, .class_ 67), (0, u "java/lang/Object")] 63

/-- java/lang/CharSequence -/
def k4 : Class := { plain "java/lang/CharSequence" (some 0) with
  accessFlags := 1537
  interfaces := #[]
  cf := some (fileOf pool4 2 #[.nestMembers #[47, 59]] #[] 1537 66 #[] #[])
  fields := #[]
  methods := #[]
  instanceTypes := #[]
  staticTypes := #[]
  resolved := Array.replicate 131 none
  statics := none }

def pool5 : Array CpInfo := pool [(1, .class_ 2), (0, u "java/lang/constant/Constable"), (0, .class_ 4), (0, u "java/lang/Object")] 6

/-- java/lang/constant/Constable -/
def k5 : Class := { plain "java/lang/constant/Constable" (some 0) with
  accessFlags := 1537
  interfaces := #[]
  cf := some (fileOf pool5 1 #[] #[] 1537 3 #[] #[])
  fields := #[]
  methods := #[]
  instanceTypes := #[]
  staticTypes := #[]
  resolved := Array.replicate 11 none
  statics := none }

def pool6 : Array CpInfo := pool [(1, .class_ 2), (0, u "java/lang/constant/ConstantDesc"), (0, .class_ 4), (0, u "java/lang/Object")] 32

/-- java/lang/constant/ConstantDesc -/
def k6 : Class := { plain "java/lang/constant/ConstantDesc" (some 0) with
  accessFlags := 1537
  interfaces := #[]
  cf := some (fileOf pool6 1 #[] #[] 1537 3 #[] #[])
  fields := #[]
  methods := #[]
  instanceTypes := #[]
  staticTypes := #[]
  resolved := Array.replicate 37 none
  statics := none }

def pool7 : Array CpInfo := pool [(1, .methodref 2 3), (0, .class_ 4), (0, .nameAndType 5 6), (0, u "java/lang/Object"), (0, u "<init>"), (0, u "()V"), (2, .fieldref 10 11), (0, .class_ 12), (0, .nameAndType 13 14), (0, u "java/lang/String"), (0, u "value"), (0, u "[B"), (0, .fieldref 10 16), (0, .nameAndType 17 18), (0, u "coder"), (0, u "B"), (2, u "hash"), (0, u "I"), (2, u "hashIsZero"), (0, u "Z"), (0, .methodref 10 28), (0, .nameAndType 5 29), (0, u "([CIILjava/lang/Void;)V"), (8, .fieldref 10 39), (0, .nameAndType 40 26), (0, u "COMPACT_STRINGS"), (1, .class_ 44), (1, u "java/lang/StringUTF16"), (0, u "compress"), (1, .methodref 42 48), (0, .nameAndType 49 50), (0, u "coderFromArrayLen"), (0, u "([BI)B"), (56, .class_ 109), (1, u "java/lang/StringLatin1"), (67, .methodref 42 178), (0, .nameAndType 45 179), (0, u "([CII)[B"), (361, .methodref 107 542), (0, .nameAndType 543 544), (0, u "equals"), (0, u "([B[B)Z"), (28, u "(Ljava/lang/Object;)Z"), (1, .class_ 576), (0, u "java/lang/CharSequence"), (22, u "CASE_INSENSITIVE_ORDER"), (0, u "Ljava/util/Comparator;"), (409, u "([C)V"), (90, u "serialPersistentFields"), (0, u "[Ljava/io/ObjectStreamField;"), (0, .class_ 1104), (0, u "java/lang/String$CaseInsensitiveComparator"), (1, .class_ 1107), (0, u "java/io/Serializable"), (0, .class_ 1109), (0, u "java/lang/Comparable"), (0, .class_ 1111), (0, u "java/lang/constant/Constable"), (0, .class_ 1113), (0, u "java/lang/constant/ConstantDesc"), (2, u "serialVersionUID"), (0, u "J"), (3, u "REPL"), (0, u "C"), (2, u "LATIN1"), (1, u "UTF16")] 323

def k7m0 : Method := { name := "<init>", desc := "()V", sig := { parameters := [], returnType := none }, accessFlags := 1, code := none }
def k7c1 : Code := { maxStack := 5, maxLocals := 2, code := jdk_42_method_3_code, exceptionTable := #[], attributes := #[] }
def k7m1 : Method := { name := "<init>", desc := "([C)V", sig := { parameters := [(.array .char)], returnType := none }, accessFlags := 1, code := some k7c1 }
def k7c2 : Code := { maxStack := 2, maxLocals := 3, code := jdk_42_method_66_code, exceptionTable := #[], attributes := #[] }
def k7m2 : Method := { name := "equals", desc := "(Ljava/lang/Object;)Z", sig := { parameters := [(.object "java/lang/Object")], returnType := some .boolean }, accessFlags := 1, code := some k7c2 }
def k7c3 : Code := { maxStack := 4, maxLocals := 6, code := jdk_42_method_149_code, exceptionTable := #[], attributes := #[] }
def k7m3 : Method := { name := "<init>", desc := "([CIILjava/lang/Void;)V", sig := { parameters := [(.array .char), .int, .int, (.object "java/lang/Void")], returnType := none }, accessFlags := 2, code := some k7c3 }
/-- java/lang/String -/
def k7 : Class := { plain "java/lang/String" (some 0) with
  accessFlags := 49
  interfaces := #[2, 3, 4, 5, 6]
  cf := some (fileOf pool7 10 #[.nestMembers #[1103]] #[{ accessFlags := 1, nameIndex := 5, descriptorIndex := 6, attributes := #[] }, { accessFlags := 1, nameIndex := 5, descriptorIndex := 1010, attributes := #[] }, { accessFlags := 1, nameIndex := 543, descriptorIndex := 573, attributes := #[] }, { accessFlags := 2, nameIndex := 5, descriptorIndex := 29, attributes := #[] }] 49 2 #[1106, 1108, 575, 1110, 1112] #[{ accessFlags := 18, nameIndex := 13, descriptorIndex := 14, attributes := #[] }, { accessFlags := 18, nameIndex := 17, descriptorIndex := 18, attributes := #[] }, { accessFlags := 2, nameIndex := 21, descriptorIndex := 22, attributes := #[] }, { accessFlags := 2, nameIndex := 25, descriptorIndex := 26, attributes := #[] }, { accessFlags := 26, nameIndex := 1116, descriptorIndex := 1117, attributes := #[] }, { accessFlags := 24, nameIndex := 40, descriptorIndex := 26, attributes := #[] }, { accessFlags := 26, nameIndex := 1101, descriptorIndex := 1102, attributes := #[] }, { accessFlags := 26, nameIndex := 1121, descriptorIndex := 1122, attributes := #[] }, { accessFlags := 25, nameIndex := 599, descriptorIndex := 600, attributes := #[] }, { accessFlags := 24, nameIndex := 1125, descriptorIndex := 18, attributes := #[] }, { accessFlags := 24, nameIndex := 1127, descriptorIndex := 18, attributes := #[] }])
  fields := #[{ name := "value", type := (.array .byte), accessFlags := 18, slot := 0, constantValue := 0 }, { name := "coder", type := .byte, accessFlags := 18, slot := 1, constantValue := 0 }, { name := "hash", type := .int, accessFlags := 2, slot := 2, constantValue := 0 }, { name := "hashIsZero", type := .boolean, accessFlags := 2, slot := 3, constantValue := 0 }, { name := "serialVersionUID", type := .long, accessFlags := 26, slot := 0, constantValue := 0 }, { name := "COMPACT_STRINGS", type := .boolean, accessFlags := 24, slot := 1, constantValue := 0 }, { name := "serialPersistentFields", type := (.array (.object "java/io/ObjectStreamField")), accessFlags := 26, slot := 2, constantValue := 0 }, { name := "REPL", type := .char, accessFlags := 26, slot := 3, constantValue := 0 }, { name := "CASE_INSENSITIVE_ORDER", type := (.object "java/util/Comparator"), accessFlags := 25, slot := 4, constantValue := 0 }, { name := "LATIN1", type := .byte, accessFlags := 24, slot := 5, constantValue := 0 }, { name := "UTF16", type := .byte, accessFlags := 24, slot := 6, constantValue := 0 }]
  methods := #[k7m0, k7m1, k7m2, k7m3]
  instanceTypes := #[(.array .byte), .byte, .int, .boolean]
  staticTypes := #[.long, .boolean, (.array (.object "java/io/ObjectStreamField")), .char, (.object "java/util/Comparator"), .byte, .byte]
  resolved := Array.replicate 1451 none
  statics := some 0 }

def pool8 : Array CpInfo := pool [(6, .class_ 8), (1, u "java/lang/Object"), (0, u "<init>"), (0, u "()V"), (1, .class_ 14), (1, u "java/lang/StringUTF16"), (31, u "$assertionsDisabled"), (0, u "Z"), (13, u "HI_BYTE_SHIFT"), (0, u "I"), (2, u "LO_BYTE_SHIFT"), (49, .methodref 12 116), (0, .nameAndType 117 118), (0, u "compress"), (0, u "([CI[BII)I"), (3, u "([CII)[B"), (138, u "coderFromArrayLen"), (0, u "([BI)B"), (106, .class_ 371), (1, u "java/lang/StringUTF16$LinesSpliterator"), (58, u "MAX_LENGTH"), (196, .class_ 628), (0, u "java/lang/StringUTF16$CodePointsSpliterator"), (0, .class_ 630), (0, u "java/lang/StringUTF16$CharsSpliterator")] 4

def k8m0 : Method := { name := "<init>", desc := "()V", sig := { parameters := [], returnType := none }, accessFlags := 0, code := none }
def k8c1 : Code := { maxStack := 2, maxLocals := 2, code := jdk_52_method_15_code, exceptionTable := #[], attributes := #[] }
def k8m1 : Method := { name := "coderFromArrayLen", desc := "([BI)B", sig := { parameters := [(.array .byte), .int], returnType := some .byte }, accessFlags := 8, code := some k8c1 }
def k8c2 : Code := { maxStack := 5, maxLocals := 6, code := jdk_52_method_16_code, exceptionTable := #[], attributes := #[] }
def k8m2 : Method := { name := "compress", desc := "([CII)[B", sig := { parameters := [(.array .char), .int, .int], returnType := some (.array .byte) }, accessFlags := 9, code := some k8c2 }
def k8c3 : Code := { maxStack := 3, maxLocals := 7, code := jdk_52_method_21_code, exceptionTable := #[], attributes := #[] }
def k8m3 : Method := { name := "compress", desc := "([CI[BII)I", sig := { parameters := [(.array .char), .int, (.array .byte), .int, .int], returnType := some .int }, accessFlags := 9, code := some k8c3 }
/-- java/lang/StringUTF16 -/
def k8 : Class := { plain "java/lang/StringUTF16" (some 0) with
  accessFlags := 48
  interfaces := #[]
  cf := some (fileOf pool8 12 #[.nestMembers #[627, 629, 369]] #[{ accessFlags := 0, nameIndex := 9, descriptorIndex := 10, attributes := #[] }, { accessFlags := 8, nameIndex := 261, descriptorIndex := 262, attributes := #[] }, { accessFlags := 9, nameIndex := 117, descriptorIndex := 122, attributes := #[] }, { accessFlags := 9, nameIndex := 117, descriptorIndex := 118, attributes := #[] }] 48 6 #[] #[{ accessFlags := 26, nameIndex := 61, descriptorIndex := 62, attributes := #[] }, { accessFlags := 26, nameIndex := 65, descriptorIndex := 62, attributes := #[] }, { accessFlags := 24, nameIndex := 430, descriptorIndex := 62, attributes := #[] }, { accessFlags := 4120, nameIndex := 46, descriptorIndex := 47, attributes := #[] }])
  fields := #[{ name := "HI_BYTE_SHIFT", type := .int, accessFlags := 26, slot := 0, constantValue := 0 }, { name := "LO_BYTE_SHIFT", type := .int, accessFlags := 26, slot := 1, constantValue := 0 }, { name := "MAX_LENGTH", type := .int, accessFlags := 24, slot := 2, constantValue := 0 }, { name := "$assertionsDisabled", type := .boolean, accessFlags := 4120, slot := 3, constantValue := 0 }]
  methods := #[k8m0, k8m1, k8m2, k8m3]
  instanceTypes := #[]
  staticTypes := #[.int, .int, .int, .boolean]
  resolved := Array.replicate 635 none
  statics := none }

def pool9 : Array CpInfo := pool [(2, .class_ 4), (1, u "java/lang/Enum"), (0, u "name"), (0, u "Ljava/lang/String;"), (2, u "ordinal"), (0, u "I"), (1, .class_ 14), (1, u "java/lang/Object"), (4, u "hash"), (86, .class_ 108), (1, u "java/lang/Enum$EnumDesc"), (2, .class_ 112), (0, u "java/lang/constant/Constable"), (0, .class_ 114), (0, u "java/lang/Comparable"), (0, .class_ 116), (0, u "java/io/Serializable")] 87

/-- java/lang/Enum -/
def k9 : Class := { plain "java/lang/Enum" (some 0) with
  accessFlags := 1057
  interfaces := #[5, 3, 2]
  cf := some (fileOf pool9 2 #[.nestMembers #[106]] #[] 1057 12 #[111, 113, 115] #[{ accessFlags := 18, nameIndex := 5, descriptorIndex := 6, attributes := #[] }, { accessFlags := 18, nameIndex := 9, descriptorIndex := 10, attributes := #[] }, { accessFlags := 2, nameIndex := 19, descriptorIndex := 10, attributes := #[] }])
  fields := #[{ name := "name", type := (.object "java/lang/String"), accessFlags := 18, slot := 0, constantValue := 0 }, { name := "ordinal", type := .int, accessFlags := 18, slot := 1, constantValue := 0 }, { name := "hash", type := .int, accessFlags := 2, slot := 2, constantValue := 0 }]
  methods := #[]
  instanceTypes := #[(.object "java/lang/String"), .int, .int]
  staticTypes := #[]
  resolved := Array.replicate 204 none
  statics := none }

def pool10 : Array CpInfo := pool [(1, .class_ 2), (0, u "com/example/ship_shore_exchange/shipshoreexchange/model/Role"), (2, u "MSI"), (0, u "Lcom/example/ship_shore_exchange/shipshoreexchange/model/Role;"), (2, u "REGISTRY"), (0, .fieldref 1 11), (0, .nameAndType 12 13), (0, u "$VALUES"), (0, u "[Lcom/example/ship_shore_exchange/shipshoreexchange/model/Role;"), (0, .methodref 15 16), (0, .class_ 13), (0, .nameAndType 17 18), (0, u "clone"), (0, u "()Ljava/lang/Object;"), (1, .class_ 22), (1, u "java/lang/Enum"), (6, .fieldref 1 30), (0, .nameAndType 31 32), (0, u "text"), (0, u "Ljava/lang/String;"), (0, .methodref 1 34), (0, .nameAndType 35 36), (0, u "values"), (0, u "()[Lcom/example/ship_shore_exchange/shipshoreexchange/model/Role;"), (0, .methodref 38 39), (0, .class_ 40), (0, .nameAndType 41 42), (0, u "java/lang/String"), (0, u "equals"), (0, u "(Ljava/lang/Object;)Z"), (5, u "()Ljava/lang/String;"), (28, u "fromText"), (0, u "(Ljava/lang/String;)Lcom/example/ship_shore_exchange/shipshoreexchange/model/Role;")] 89

def k10c0 : Code := { maxStack := 1, maxLocals := 0, code := prog_10_method_1_code, exceptionTable := #[], attributes := #[] }
def k10m0 : Method := { name := "values", desc := "()[Lcom/example/ship_shore_exchange/shipshoreexchange/model/Role;", sig := { parameters := [], returnType := some (.array (.object "com/example/ship_shore_exchange/shipshoreexchange/model/Role")) }, accessFlags := 9, code := some k10c0 }
def k10c1 : Code := { maxStack := 1, maxLocals := 1, code := prog_10_method_4_code, exceptionTable := #[], attributes := #[] }
def k10m1 : Method := { name := "text", desc := "()Ljava/lang/String;", sig := { parameters := [], returnType := some (.object "java/lang/String") }, accessFlags := 1, code := some k10c1 }
def k10c2 : Code := { maxStack := 4, maxLocals := 5, code := prog_10_method_5_code, exceptionTable := #[], attributes := #[] }
def k10m2 : Method := { name := "fromText", desc := "(Ljava/lang/String;)Lcom/example/ship_shore_exchange/shipshoreexchange/model/Role;", sig := { parameters := [(.object "java/lang/String")], returnType := some (.object "com/example/ship_shore_exchange/shipshoreexchange/model/Role") }, accessFlags := 9, code := some k10c2 }
/-- com/example/ship_shore_exchange/shipshoreexchange/model/Role -/
def k10 : Class := { plain "com/example/ship_shore_exchange/shipshoreexchange/model/Role" (some 9) with
  accessFlags := 16433
  interfaces := #[]
  cf := some (fileOf pool10 1 #[] #[{ accessFlags := 9, nameIndex := 35, descriptorIndex := 36, attributes := #[] }, { accessFlags := 1, nameIndex := 31, descriptorIndex := 48, attributes := #[] }, { accessFlags := 9, nameIndex := 77, descriptorIndex := 78, attributes := #[] }] 16433 20 #[] #[{ accessFlags := 16409, nameIndex := 5, descriptorIndex := 6, attributes := #[] }, { accessFlags := 16409, nameIndex := 9, descriptorIndex := 6, attributes := #[] }, { accessFlags := 18, nameIndex := 31, descriptorIndex := 32, attributes := #[] }, { accessFlags := 4122, nameIndex := 12, descriptorIndex := 13, attributes := #[] }])
  fields := #[{ name := "MSI", type := (.object "com/example/ship_shore_exchange/shipshoreexchange/model/Role"), accessFlags := 16409, slot := 0, constantValue := 0 }, { name := "REGISTRY", type := (.object "com/example/ship_shore_exchange/shipshoreexchange/model/Role"), accessFlags := 16409, slot := 1, constantValue := 0 }, { name := "text", type := (.object "java/lang/String"), accessFlags := 18, slot := 3, constantValue := 0 }, { name := "$VALUES", type := (.array (.object "com/example/ship_shore_exchange/shipshoreexchange/model/Role")), accessFlags := 4122, slot := 2, constantValue := 0 }]
  methods := #[k10m0, k10m1, k10m2]
  instanceTypes := #[(.object "java/lang/String"), .int, .int, (.object "java/lang/String")]
  staticTypes := #[(.object "com/example/ship_shore_exchange/shipshoreexchange/model/Role"), (.object "com/example/ship_shore_exchange/shipshoreexchange/model/Role"), (.array (.object "com/example/ship_shore_exchange/shipshoreexchange/model/Role"))]
  resolved := Array.replicate 168 none
  statics := some 1 }

def pool11 : Array CpInfo := pool [(1, .class_ 2), (0, u "java/lang/Cloneable"), (0, .class_ 4), (0, u "java/lang/Object")] 2

/-- java/lang/Cloneable -/
def k11 : Class := { plain "java/lang/Cloneable" (some 0) with
  accessFlags := 1537
  interfaces := #[]
  cf := some (fileOf pool11 1 #[] #[] 1537 3 #[] #[])
  fields := #[]
  methods := #[]
  instanceTypes := #[]
  staticTypes := #[]
  resolved := Array.replicate 7 none
  statics := none }

def pool12 : Array CpInfo := pool [(4, .class_ 6), (1, u "java/lang/Object"), (0, u "<init>"), (0, u "()V"), (5, .class_ 16), (1, u "java/lang/StringLatin1"), (104, u "$assertionsDisabled"), (0, u "Z"), (98, .class_ 223), (1, u "java/lang/StringLatin1$LinesSpliterator"), (57, u "equals"), (0, u "([B[B)Z"), (107, .class_ 391), (0, u "java/lang/StringLatin1$CharsSpliterator")] 3

def k12m0 : Method := { name := "<init>", desc := "()V", sig := { parameters := [], returnType := none }, accessFlags := 0, code := none }
def k12c1 : Code := { maxStack := 3, maxLocals := 3, code := jdk_43_method_13_code, exceptionTable := #[], attributes := #[] }
def k12m1 : Method := { name := "equals", desc := "([B[B)Z", sig := { parameters := [(.array .byte), (.array .byte)], returnType := some .boolean }, accessFlags := 9, code := some k12c1 }
/-- java/lang/StringLatin1 -/
def k12 : Class := { plain "java/lang/StringLatin1" (some 0) with
  accessFlags := 48
  interfaces := #[]
  cf := some (fileOf pool12 14 #[.nestMembers #[390, 221]] #[{ accessFlags := 0, nameIndex := 7, descriptorIndex := 8, attributes := #[] }, { accessFlags := 9, nameIndex := 281, descriptorIndex := 282, attributes := #[] }] 48 4 #[] #[{ accessFlags := 4120, nameIndex := 121, descriptorIndex := 122, attributes := #[] }])
  fields := #[{ name := "$assertionsDisabled", type := .boolean, accessFlags := 4120, slot := 0, constantValue := 0 }]
  methods := #[k12m0, k12m1]
  instanceTypes := #[]
  staticTypes := #[.boolean]
  resolved := Array.replicate 395 none
  statics := none }

def pool13 : Array CpInfo := pool [(2, .class_ 4), (1, u "java/lang/Object"), (0, u "<init>"), (0, u "()V"), (17, .class_ 26), (1, u "jdk/internal/util/Preconditions"), (28, .class_ 56), (0, u "jdk/internal/util/Preconditions$4"), (57, .class_ 115), (0, u "jdk/internal/util/Preconditions$1"), (7, u "SIOOBE_FORMATTER"), (0, u "Ljava/util/function/BiFunction;"), (0, .class_ 126), (0, u "jdk/internal/util/Preconditions$2"), (3, u "AIOOBE_FORMATTER"), (0, .class_ 132), (0, u "jdk/internal/util/Preconditions$3"), (3, u "IOOBE_FORMATTER")] 57

def k13m0 : Method := { name := "<init>", desc := "()V", sig := { parameters := [], returnType := none }, accessFlags := 1, code := none }
/-- jdk/internal/util/Preconditions -/
def k13 : Class := { plain "jdk/internal/util/Preconditions" (some 0) with
  accessFlags := 33
  interfaces := #[]
  cf := some (fileOf pool13 24 #[.nestMembers #[55, 131, 125, 114]] #[{ accessFlags := 1, nameIndex := 5, descriptorIndex := 6, attributes := #[] }] 33 2 #[] #[{ accessFlags := 25, nameIndex := 123, descriptorIndex := 124, attributes := #[] }, { accessFlags := 25, nameIndex := 130, descriptorIndex := 124, attributes := #[] }, { accessFlags := 25, nameIndex := 136, descriptorIndex := 124, attributes := #[] }])
  fields := #[{ name := "SIOOBE_FORMATTER", type := (.object "java/util/function/BiFunction"), accessFlags := 25, slot := 0, constantValue := 0 }, { name := "AIOOBE_FORMATTER", type := (.object "java/util/function/BiFunction"), accessFlags := 25, slot := 1, constantValue := 0 }, { name := "IOOBE_FORMATTER", type := (.object "java/util/function/BiFunction"), accessFlags := 25, slot := 2, constantValue := 0 }]
  methods := #[k13m0]
  instanceTypes := #[]
  staticTypes := #[(.object "java/util/function/BiFunction"), (.object "java/util/function/BiFunction"), (.object "java/util/function/BiFunction")]
  resolved := Array.replicate 194 none
  statics := some 2 }

def pool14 : Array CpInfo := pool [(9, u "<init>"), (6, .class_ 18), (1, u "java/lang/Object"), (0, u "()V"), (1, .class_ 23), (1, u "jdk/internal/util/ArraysSupport"), (0, u "LOG2_ARRAY_LONG_INDEX_SCALE"), (0, u "I"), (2, u "U"), (0, u "Ljdk/internal/misc/Unsafe;"), (8, u "BIG_ENDIAN"), (0, u "Z"), (8, u "LOG2_BYTE_BIT_SIZE"), (4, u "LOG2_ARRAY_INT_INDEX_SCALE"), (54, u "JLA"), (0, u "Ljdk/internal/access/JavaLangAccess;"), (11, u "LOG2_ARRAY_BOOLEAN_INDEX_SCALE"), (9, u "LOG2_ARRAY_BYTE_INDEX_SCALE"), (5, u "LOG2_ARRAY_CHAR_INDEX_SCALE"), (5, u "LOG2_ARRAY_SHORT_INDEX_SCALE"), (18, u "LOG2_ARRAY_FLOAT_INDEX_SCALE"), (24, u "LOG2_ARRAY_DOUBLE_INDEX_SCALE"), (89, u "T_BOOLEAN"), (2, u "T_CHAR"), (1, u "T_FLOAT"), (1, u "T_DOUBLE"), (1, u "T_BYTE"), (1, u "T_SHORT"), (1, u "T_INT"), (1, u "T_LONG"), (1, u "SOFT_MAX_ARRAY_LENGTH")] 83

def k14m0 : Method := { name := "<init>", desc := "()V", sig := { parameters := [], returnType := none }, accessFlags := 2, code := none }
/-- jdk/internal/util/ArraysSupport -/
def k14 : Class := { plain "jdk/internal/util/ArraysSupport" (some 0) with
  accessFlags := 33
  interfaces := #[]
  cf := some (fileOf pool14 21 #[] #[{ accessFlags := 2, nameIndex := 9, descriptorIndex := 19, attributes := #[] }] 33 16 #[] #[{ accessFlags := 24, nameIndex := 28, descriptorIndex := 29, attributes := #[] }, { accessFlags := 26, nameIndex := 38, descriptorIndex := 39, attributes := #[] }, { accessFlags := 25, nameIndex := 121, descriptorIndex := 25, attributes := #[] }, { accessFlags := 25, nameIndex := 131, descriptorIndex := 25, attributes := #[] }, { accessFlags := 25, nameIndex := 137, descriptorIndex := 25, attributes := #[] }, { accessFlags := 25, nameIndex := 143, descriptorIndex := 25, attributes := #[] }, { accessFlags := 25, nameIndex := 53, descriptorIndex := 25, attributes := #[] }, { accessFlags := 25, nameIndex := 24, descriptorIndex := 25, attributes := #[] }, { accessFlags := 25, nameIndex := 162, descriptorIndex := 25, attributes := #[] }, { accessFlags := 25, nameIndex := 187, descriptorIndex := 25, attributes := #[] }, { accessFlags := 26, nameIndex := 48, descriptorIndex := 25, attributes := #[] }, { accessFlags := 25, nameIndex := 277, descriptorIndex := 25, attributes := #[] }, { accessFlags := 25, nameIndex := 280, descriptorIndex := 25, attributes := #[] }, { accessFlags := 25, nameIndex := 282, descriptorIndex := 25, attributes := #[] }, { accessFlags := 25, nameIndex := 284, descriptorIndex := 25, attributes := #[] }, { accessFlags := 25, nameIndex := 286, descriptorIndex := 25, attributes := #[] }, { accessFlags := 25, nameIndex := 288, descriptorIndex := 25, attributes := #[] }, { accessFlags := 25, nameIndex := 290, descriptorIndex := 25, attributes := #[] }, { accessFlags := 25, nameIndex := 292, descriptorIndex := 25, attributes := #[] }, { accessFlags := 26, nameIndex := 108, descriptorIndex := 109, attributes := #[] }, { accessFlags := 25, nameIndex := 294, descriptorIndex := 25, attributes := #[] }])
  fields := #[{ name := "U", type := (.object "jdk/internal/misc/Unsafe"), accessFlags := 24, slot := 0, constantValue := 0 }, { name := "BIG_ENDIAN", type := .boolean, accessFlags := 26, slot := 1, constantValue := 0 }, { name := "LOG2_ARRAY_BOOLEAN_INDEX_SCALE", type := .int, accessFlags := 25, slot := 2, constantValue := 0 }, { name := "LOG2_ARRAY_BYTE_INDEX_SCALE", type := .int, accessFlags := 25, slot := 3, constantValue := 0 }, { name := "LOG2_ARRAY_CHAR_INDEX_SCALE", type := .int, accessFlags := 25, slot := 4, constantValue := 0 }, { name := "LOG2_ARRAY_SHORT_INDEX_SCALE", type := .int, accessFlags := 25, slot := 5, constantValue := 0 }, { name := "LOG2_ARRAY_INT_INDEX_SCALE", type := .int, accessFlags := 25, slot := 6, constantValue := 0 }, { name := "LOG2_ARRAY_LONG_INDEX_SCALE", type := .int, accessFlags := 25, slot := 7, constantValue := 0 }, { name := "LOG2_ARRAY_FLOAT_INDEX_SCALE", type := .int, accessFlags := 25, slot := 8, constantValue := 0 }, { name := "LOG2_ARRAY_DOUBLE_INDEX_SCALE", type := .int, accessFlags := 25, slot := 9, constantValue := 0 }, { name := "LOG2_BYTE_BIT_SIZE", type := .int, accessFlags := 26, slot := 10, constantValue := 0 }, { name := "T_BOOLEAN", type := .int, accessFlags := 25, slot := 11, constantValue := 0 }, { name := "T_CHAR", type := .int, accessFlags := 25, slot := 12, constantValue := 0 }, { name := "T_FLOAT", type := .int, accessFlags := 25, slot := 13, constantValue := 0 }, { name := "T_DOUBLE", type := .int, accessFlags := 25, slot := 14, constantValue := 0 }, { name := "T_BYTE", type := .int, accessFlags := 25, slot := 15, constantValue := 0 }, { name := "T_SHORT", type := .int, accessFlags := 25, slot := 16, constantValue := 0 }, { name := "T_INT", type := .int, accessFlags := 25, slot := 17, constantValue := 0 }, { name := "T_LONG", type := .int, accessFlags := 25, slot := 18, constantValue := 0 }, { name := "JLA", type := (.object "jdk/internal/access/JavaLangAccess"), accessFlags := 26, slot := 19, constantValue := 0 }, { name := "SOFT_MAX_ARRAY_LENGTH", type := .int, accessFlags := 25, slot := 20, constantValue := 0 }]
  methods := #[k14m0]
  instanceTypes := #[]
  staticTypes := #[(.object "jdk/internal/misc/Unsafe"), .boolean, .int, .int, .int, .int, .int, .int, .int, .int, .int, .int, .int, .int, .int, .int, .int, .int, .int, (.object "jdk/internal/access/JavaLangAccess"), .int]
  resolved := Array.replicate 378 none
  statics := none }

/-- the primitive byte -/
def k15 : Class := { plain "byte" none with kind := .primitive 'B', accessFlags := 0x411 }
/-- [B -/
def k16 : Class := { plain "[B" (some 0) with kind := .array 15 .byte, interfaces := #[11, 2], accessFlags := 1041 }

/-- the primitive char -/
def k17 : Class := { plain "char" none with kind := .primitive 'C', accessFlags := 0x411 }
/-- [C -/
def k18 : Class := { plain "[C" (some 0) with kind := .array 17 .char, interfaces := #[11, 2], accessFlags := 1041 }

/-- the primitive int -/
def k19 : Class := { plain "int" none with kind := .primitive 'I', accessFlags := 0x411 }
/-- [I -/
def k20 : Class := { plain "[I" (some 0) with kind := .array 19 .int, interfaces := #[11, 2], accessFlags := 1041 }

/-- [Lcom/example/ship_shore_exchange/shipshoreexchange/model/Role; -/
def k21 : Class := { plain "[Lcom/example/ship_shore_exchange/shipshoreexchange/model/Role;" (some 0) with kind := .array 10 (.object "com/example/ship_shore_exchange/shipshoreexchange/model/Role"), interfaces := #[11, 2], accessFlags := 1041 }

def heap : Heap := #[{ cls := 7, slots := #[.long 0, .int 1, .null, .int 0, .null, .int 0, .int 0], vm := .statics 7 },
  { cls := 10, slots := #[.ref 4, .ref 5, .ref 3], vm := .statics 10 },
  { cls := 13, slots := #[.null, .null, .null], vm := .statics 13 },
  { cls := 21, slots := #[.ref 4, .ref 5], vm := .none },
  { cls := 10, slots := #[.null, .int 0, .int 0, .ref 6], vm := .none },
  { cls := 10, slots := #[.null, .int 1, .int 0, .ref 8], vm := .none },
  { cls := 7, slots := #[.ref 7, .int 0, .int 0, .int 0], vm := .none },
  { cls := 16, slots := #[.int 109, .int 115, .int 105], vm := .none },
  { cls := 7, slots := #[.ref 9, .int 0, .int 0, .int 0], vm := .none },
  { cls := 16, slots := #[.int 114, .int 101, .int 103, .int 105, .int 115, .int 116, .int 114, .int 121], vm := .none }]
def classes : Array Class := #[k0, k1, k2, k3, k4, k5, k6, k7, k8, k9, k10, k11, k12, k13, k14, k15, k16, k17, k18, k19, k20, k21]
def interned : List (Array UInt16 × Addr) := []
def slotsUsed : Nat := 42
def theMethod : MethodId := ⟨1, 1⟩
def args0 : Array Value := #[.int 5]
def aboutOver (below : List Frame) : State where
  vm := { classes := classes, interned := interned.toArray }
  heap := heap
  slotsUsed := slotsUsed
  threads := #[{ frames := .invoking theMethod args0 :: below }]
def below0 : List Frame := [.native { method := ⟨0, 0⟩, args := #[] }]
def about1 : State := aboutOver below0
def p0 : Program := .bare "" "" ""
def e0 : Env := launch0.env 0 0 0
theorem w_frames : about1.frames = Frame.invoking theMethod args0 :: below0 := rfl
set_option maxRecDepth 65536 in
theorem w_args : argsFit about1.vm theMethod args0 = true := by decide +kernel
set_option maxRecDepth 65536 in
theorem w_heap : heapFits about1 = true := by decide +kernel
set_option maxRecDepth 65536 in
theorem w_runnable : about1.curStatus? = some .runnable := by decide +kernel
set_option maxRecDepth 65536 in
theorem w_alone : about1.alone = true := by decide +kernel
set_option maxRecDepth 65536 in
theorem w_named : about1.methodNamed? x = some theMethod := by decide +kernel
set_option maxRecDepth 65536 in
theorem w_hears : about1.hears theMethod below0 = true := by decide +kernel
set_option maxRecDepth 65536 in
theorem w_ripe : about1.ripe theMethod args0 below0 = true := by decide +kernel
theorem w_running : about1.status = .running := rfl
set_option maxRecDepth 65536 in
theorem w_room : about1.hasRoom e0.platform room_1 = true :=
  launch0.hasRoom_least _ room_1 (by decide +kernel) (by decide +kernel) (by decide +kernel) (by decide +kernel) (by decide +kernel) (by decide +kernel)
theorem allAtoms_all (ts : List Jvm.Cond) (a : Array Jvm.Value) (st : Jvm.State) : (allAtoms ts).before a st = ts.all (fun c => c.before a st) := by
  induction ts with
  | nil => rfl
  | cons c t ih =>
    show (Jvm.Cond.and c (allAtoms t)).before a st = _
    rw [Jvm.Cond.before_and, ih, List.all_cons]
def words1 : List Jvm.Cond := Jvm.Cond.code x code maxLocals ret :: tables_1
/-- a 'code' word, met by the world's own term for the bytes: nothing is compared byte by byte -/
theorem code_word {y : MethodName} {bytes : ByteArray} {mx : Nat} {rt : Option FieldType} {a : Array Value} {s : State} {m : MethodId} {meth : Method} {c : Code} (h1 : s.methodNamed? y = some m) (h2 : s.vm.method? m = some meth) (h3 : meth.code = some c) (h4 : c.code = bytes)
    (h5 : (c.maxLocals == mx && c.exceptionTable.isEmpty && decide (c.maxStack ≤ mostOperands) && decide (meth.sig.returnType = rt) && !meth.locks && decide (parseMethodDescriptor y.desc = some meth.sig)) = true) : (Jvm.Cond.code y bytes mx rt).before a s = true := by
  simp only [Bool.and_eq_true, beq_iff_eq, Bool.not_eq_true', decide_eq_true_eq] at h5
  obtain ⟨⟨⟨⟨⟨g1, g2⟩, g3⟩, g4⟩, g5⟩, g6⟩ := h5
  simp [Cond.before, Cond.holds, Cond.value, h1, h2, h3, h4, g1, g2, g3, g4, g5, g6]
def isCode : Jvm.Cond → Bool
  | .code _ _ _ _ => true
  | _ => false
theorem all_split {L : List Jvm.Cond} {P : Jvm.Cond → Bool} (h1 : L.all (fun c => isCode c || P c) = true) (h2 : ∀ c ∈ L.filter isCode, P c = true) : L.all P = true := by
  refine List.all_eq_true.mpr fun c hc => ?_
  have h := List.all_eq_true.mp h1 c hc
  rcases Bool.eq_false_or_eq_true (isCode c) with hi | hi
  · exact h2 c (List.mem_filter.mpr ⟨hc, hi⟩)
  · simpa [hi] using h
set_option maxRecDepth 65536 in
theorem w_c0 : (Jvm.Cond.code x code maxLocals ret).before args0 about1 = true := code_word (m := ⟨1, 1⟩) (meth := k1m1) (c := k1c1) (by decide +kernel) rfl rfl rfl (by decide +kernel)
set_option maxRecDepth 65536 in
theorem w_c1 : (Jvm.Cond.code ({ cls := "java/lang/String", name := "<init>", desc := "([C)V" } : Jvm.MethodName) jdk_42_method_3_code (2 : Nat) (Option.none : Option Jvm.ClassFile.FieldType)).before args0 about1 = true := code_word (m := ⟨7, 1⟩) (meth := k7m1) (c := k7c1) (by decide +kernel) rfl rfl rfl (by decide +kernel)
set_option maxRecDepth 65536 in
theorem w_c2 : (Jvm.Cond.code ({ cls := "java/lang/String", name := "<init>", desc := "([CIILjava/lang/Void;)V" } : Jvm.MethodName) jdk_42_method_149_code (6 : Nat) (Option.none : Option Jvm.ClassFile.FieldType)).before args0 about1 = true := code_word (m := ⟨7, 3⟩) (meth := k7m3) (c := k7c3) (by decide +kernel) rfl rfl rfl (by decide +kernel)
set_option maxRecDepth 65536 in
theorem w_c3 : (Jvm.Cond.code ({ cls := "java/lang/Object", name := "<init>", desc := "()V" } : Jvm.MethodName) object_method_1_code (1 : Nat) (Option.none : Option Jvm.ClassFile.FieldType)).before args0 about1 = true := code_word (m := ⟨0, 0⟩) (meth := k0m0) (c := k0c0) (by decide +kernel) rfl rfl rfl (by decide +kernel)
set_option maxRecDepth 65536 in
theorem w_c4 : (Jvm.Cond.code ({ cls := "java/lang/StringUTF16", name := "compress", desc := "([CII)[B" } : Jvm.MethodName) jdk_52_method_16_code (6 : Nat) (Option.some (Jvm.ClassFile.FieldType.array Jvm.ClassFile.FieldType.byte))).before args0 about1 = true := code_word (m := ⟨8, 2⟩) (meth := k8m2) (c := k8c2) (by decide +kernel) rfl rfl rfl (by decide +kernel)
set_option maxRecDepth 65536 in
theorem w_c5 : (Jvm.Cond.code ({ cls := "java/lang/StringUTF16", name := "compress", desc := "([CI[BII)I" } : Jvm.MethodName) jdk_52_method_21_code (7 : Nat) (Option.some Jvm.ClassFile.FieldType.int)).before args0 about1 = true := code_word (m := ⟨8, 3⟩) (meth := k8m3) (c := k8c3) (by decide +kernel) rfl rfl rfl (by decide +kernel)
set_option maxRecDepth 65536 in
theorem w_c6 : (Jvm.Cond.code ({ cls := "java/lang/StringUTF16", name := "coderFromArrayLen", desc := "([BI)B" } : Jvm.MethodName) jdk_52_method_15_code (2 : Nat) (Option.some Jvm.ClassFile.FieldType.byte)).before args0 about1 = true := code_word (m := ⟨8, 1⟩) (meth := k8m1) (c := k8c1) (by decide +kernel) rfl rfl rfl (by decide +kernel)
set_option maxRecDepth 65536 in
theorem w_c7 : (Jvm.Cond.code ({ cls := "com/example/ship_shore_exchange/shipshoreexchange/model/Role", name := "fromText", desc := "(Ljava/lang/String;)Lcom/example/ship_shore_exchange/shipshoreexchange/model/Role;" } : Jvm.MethodName) prog_10_method_5_code (5 : Nat) (Option.some (Jvm.ClassFile.FieldType.object "com/example/ship_shore_exchange/shipshoreexchange/model/Role"))).before args0 about1 = true := code_word (m := ⟨10, 2⟩) (meth := k10m2) (c := k10c2) (by decide +kernel) rfl rfl rfl (by decide +kernel)
set_option maxRecDepth 65536 in
theorem w_c8 : (Jvm.Cond.code ({ cls := "com/example/ship_shore_exchange/shipshoreexchange/model/Role", name := "values", desc := "()[Lcom/example/ship_shore_exchange/shipshoreexchange/model/Role;" } : Jvm.MethodName) prog_10_method_1_code (0 : Nat) (Option.some (Jvm.ClassFile.FieldType.array (Jvm.ClassFile.FieldType.object "com/example/ship_shore_exchange/shipshoreexchange/model/Role")))).before args0 about1 = true := code_word (m := ⟨10, 0⟩) (meth := k10m0) (c := k10c0) (by decide +kernel) rfl rfl rfl (by decide +kernel)
set_option maxRecDepth 65536 in
theorem w_c9 : (Jvm.Cond.code ({ cls := "java/lang/String", name := "equals", desc := "(Ljava/lang/Object;)Z" } : Jvm.MethodName) jdk_42_method_66_code (3 : Nat) (Option.some Jvm.ClassFile.FieldType.boolean)).before args0 about1 = true := code_word (m := ⟨7, 2⟩) (meth := k7m2) (c := k7c2) (by decide +kernel) rfl rfl rfl (by decide +kernel)
set_option maxRecDepth 65536 in
theorem w_c10 : (Jvm.Cond.code ({ cls := "java/lang/StringLatin1", name := "equals", desc := "([B[B)Z" } : Jvm.MethodName) jdk_43_method_13_code (3 : Nat) (Option.some Jvm.ClassFile.FieldType.boolean)).before args0 about1 = true := code_word (m := ⟨12, 1⟩) (meth := k12m1) (c := k12c1) (by decide +kernel) rfl rfl rfl (by decide +kernel)
set_option maxRecDepth 65536 in
theorem w_c11 : (Jvm.Cond.code ({ cls := "com/example/ship_shore_exchange/shipshoreexchange/model/Role", name := "text", desc := "()Ljava/lang/String;" } : Jvm.MethodName) prog_10_method_4_code (1 : Nat) (Option.some (Jvm.ClassFile.FieldType.object "java/lang/String"))).before args0 about1 = true := code_word (m := ⟨10, 1⟩) (meth := k10m1) (c := k10c1) (by decide +kernel) rfl rfl rfl (by decide +kernel)
def codes1 : List Jvm.Cond := [Jvm.Cond.code x code maxLocals ret, Jvm.Cond.code ({ cls := "java/lang/String", name := "<init>", desc := "([C)V" } : Jvm.MethodName) jdk_42_method_3_code (2 : Nat) (Option.none : Option Jvm.ClassFile.FieldType), Jvm.Cond.code ({ cls := "java/lang/String", name := "<init>", desc := "([CIILjava/lang/Void;)V" } : Jvm.MethodName) jdk_42_method_149_code (6 : Nat) (Option.none : Option Jvm.ClassFile.FieldType), Jvm.Cond.code ({ cls := "java/lang/Object", name := "<init>", desc := "()V" } : Jvm.MethodName) object_method_1_code (1 : Nat) (Option.none : Option Jvm.ClassFile.FieldType), Jvm.Cond.code ({ cls := "java/lang/StringUTF16", name := "compress", desc := "([CII)[B" } : Jvm.MethodName) jdk_52_method_16_code (6 : Nat) (Option.some (Jvm.ClassFile.FieldType.array Jvm.ClassFile.FieldType.byte)), Jvm.Cond.code ({ cls := "java/lang/StringUTF16", name := "compress", desc := "([CI[BII)I" } : Jvm.MethodName) jdk_52_method_21_code (7 : Nat) (Option.some Jvm.ClassFile.FieldType.int), Jvm.Cond.code ({ cls := "java/lang/StringUTF16", name := "coderFromArrayLen", desc := "([BI)B" } : Jvm.MethodName) jdk_52_method_15_code (2 : Nat) (Option.some Jvm.ClassFile.FieldType.byte), Jvm.Cond.code ({ cls := "com/example/ship_shore_exchange/shipshoreexchange/model/Role", name := "fromText", desc := "(Ljava/lang/String;)Lcom/example/ship_shore_exchange/shipshoreexchange/model/Role;" } : Jvm.MethodName) prog_10_method_5_code (5 : Nat) (Option.some (Jvm.ClassFile.FieldType.object "com/example/ship_shore_exchange/shipshoreexchange/model/Role")), Jvm.Cond.code ({ cls := "com/example/ship_shore_exchange/shipshoreexchange/model/Role", name := "values", desc := "()[Lcom/example/ship_shore_exchange/shipshoreexchange/model/Role;" } : Jvm.MethodName) prog_10_method_1_code (0 : Nat) (Option.some (Jvm.ClassFile.FieldType.array (Jvm.ClassFile.FieldType.object "com/example/ship_shore_exchange/shipshoreexchange/model/Role"))), Jvm.Cond.code ({ cls := "java/lang/String", name := "equals", desc := "(Ljava/lang/Object;)Z" } : Jvm.MethodName) jdk_42_method_66_code (3 : Nat) (Option.some Jvm.ClassFile.FieldType.boolean), Jvm.Cond.code ({ cls := "java/lang/StringLatin1", name := "equals", desc := "([B[B)Z" } : Jvm.MethodName) jdk_43_method_13_code (3 : Nat) (Option.some Jvm.ClassFile.FieldType.boolean), Jvm.Cond.code ({ cls := "com/example/ship_shore_exchange/shipshoreexchange/model/Role", name := "text", desc := "()Ljava/lang/String;" } : Jvm.MethodName) prog_10_method_4_code (1 : Nat) (Option.some (Jvm.ClassFile.FieldType.object "java/lang/String"))]
set_option maxRecDepth 65536 in
theorem codes_eq : words1.filter isCode = codes1 := rfl
theorem w_codes : ∀ c ∈ words1.filter isCode, c.before args0 about1 = true := by
  rw [codes_eq]
  intro c hc
  simp only [codes1, List.mem_cons, List.not_mem_nil, or_false] at hc
  rcases hc with rfl | rfl | rfl | rfl | rfl | rfl | rfl | rfl | rfl | rfl | rfl | rfl
  · exact w_c0
  · exact w_c1
  · exact w_c2
  · exact w_c3
  · exact w_c4
  · exact w_c5
  · exact w_c6
  · exact w_c7
  · exact w_c8
  · exact w_c9
  · exact w_c10
  · exact w_c11
set_option maxRecDepth 65536 in
theorem w_t1 : (words1.take 24).all (fun c => isCode c || c.before args0 about1) = true := by decide +kernel
set_option maxRecDepth 65536 in
theorem w_t2 : ((words1.drop 24).take 24).all (fun c => isCode c || c.before args0 about1) = true := by decide +kernel
set_option maxRecDepth 65536 in
theorem w_t3 : ((words1.drop 24).drop 24).all (fun c => isCode c || c.before args0 about1) = true := by decide +kernel
theorem w_tables : (allAtoms (Jvm.Cond.code x code maxLocals ret :: tables_1)).before args0 about1 = true := by
  rw [allAtoms_all]
  show words1.all (fun c => c.before args0 about1) = true
  refine all_split ?_ w_codes
  rw [← List.take_append_drop 24 words1, List.all_append, w_t1, ← List.take_append_drop 24 (words1.drop 24), List.all_append, w_t2, w_t3]
  rfl
set_option maxRecDepth 65536 in
theorem w_rest : rest_1_c.before args0 about1 = true := by decide +kernel
set_option maxRecDepth 65536 in
theorem w_case : (Jvm.Cond.and given_1 narrow_1).before args0 about1 = true := by decide +kernel
theorem w_applies : (headSpec (Jvm.Cond.code x code maxLocals ret :: tables_1) room_1).applies x e0.platform about1 = true :=
  (Spec.applies_iff w_frames).mpr ⟨w_running, w_runnable, w_alone, w_named, w_hears, w_ripe, w_room, w_tables⟩
theorem atStart : AtStart classFile x code maxLocals ret World_1 tables_1 room_1 Calls_1 rest_1 Pre_1 launch0 p0 e0 about1 theMethod args0 below0 :=
  ⟨lists_1, trivial, launch0.admits_env _ _ _, launch0.least_env, fairChoices_fair.cas, fairChoices_fair.clock, w_frames, w_args, w_heap, w_applies, trivial, w_rest, w_case⟩
end start1
theorem witness_1 : WitnessClaimed_1 := ⟨start1.p0, start1.e0, start1.about1, start1.theMethod, start1.args0, start1.below0, start1.atStart⟩
end Jvm.Pilot.@@N@@
