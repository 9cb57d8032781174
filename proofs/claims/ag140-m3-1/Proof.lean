import JvmDerived
import JvmDerived.Pilot.@@N@@Statement
import JvmDerived.Pilot.@@N@@Code
set_option linter.unusedVariables false
set_option linter.unusedSimpArgs false
namespace Jvm.Pilot.@@N@@
open Jvm Jvm.ClassFile Sem Op Lib Jvm.Free Jvm.Stand Jvm.LawKit Jvm.RoadKit Bundle Jvm.Pilot.@@N@@.Jvm.D
set_option maxRecDepth 65536
set_option maxHeartbeats 40000000
def oE (tb : Tables) (e : Env) (below : List Frame) (P : Outcome → State → Prop) (S : State) : Prop := ∃ t o, Steps tb e below S t ∧ t.status = .running ∧ Ended t below o ∧ P o t
theorem oT {tb : Tables} {e : Env} {below : List Frame} {P : Outcome → State → Prop} {S S' : State} (h : ∀ target, Steps tb e below S' target → Steps tb e below S target) (g : oE tb e below P S') : oE tb e below P S := by
  obtain ⟨t, o, h1, r⟩ := g
  exact ⟨t, o, h _ h1, r⟩
theorem own_tr {tb : Tables} {e : Env} {below : List Frame} {P : Outcome → State → Prop} {S S' : State} (h : Steps tb e below S S') (g : oE tb e below P S') : oE tb e below P S := by
  obtain ⟨t, o, h1, r⟩ := g
  exact ⟨t, o, h.trans h1, r⟩
theorem own_cast {tb : Tables} {e : Env} {below : List Frame} {P : Outcome → State → Prop} {T : State} {f f' : JFrame} (q : f = f') (g : oE tb e below P (T.setTop f')) : oE tb e below P (T.setTop f) := q ▸ g
def own_P (s : State) (Q : Option Value → Heap → List Loc → Prop) (ck sk : Nat) : Outcome → State → Prop := fun o U' => ∃ v L, o = .returned v ∧ Q v U'.heap L ∧ FrameEnd s o U' L ck sk
theorem own_leave {p : Program} {l : Launch} {e : Env} {R : Room} {s : State} {m : MethodId} {args : Array Value} {below : List Frame} {meth : Method} {c : Code} {T : State} {locs : List Loc} {cells slots : Nat} {F : JFrame} {Q : Option Value → Heap → List Loc → Prop} {ck sk : Nat}
    (X : Stand p l e R s m args below meth c T locs cells slots) {v : Option Value} (hv : meth.sig.returnType = none → v = none) (hQ : Q v T.heap locs) (hc : cells ≤ ck) (hs : slots ≤ sk)
    (hst : ∀ fs, (∀ (f : JFrame) (acts : List Action), f.method = m → f.locked = none → f.entered = [] → (doReturn e (T.setTop f) acts v).1 = T.setFrames fs) → Steps p.tables e below (T.setTop F) (T.setFrames fs)) (hlocks : meth.locks = false := by first | assumption | exact BodyLoose.notSynchronized (by assumption) | exact Body.notSynchronized (by assumption)) : oE p.tables e below (own_P s Q ck sk) (T.setTop F) := by
  obtain ⟨fs, hr, hrun, hended, hW, hsame⟩ := X.leave hv hlocks
  exact ⟨_, _, hst fs hr, hrun, hended, _, _, rfl, hQ, ⟨_, rfl⟩, hW, hsame.mono hc hs⟩
def own_PW (s : State) (Q : Option Value → Heap → List Loc → Prop) (ck sk : Nat) : Outcome → State → Prop := fun o U' => ∃ v L, o = .returned v ∧ Q v U'.heap L ∧ ReturnedEndW s o U' L ck sk
theorem own_leaveW {p : Program} {l : Launch} {e : Env} {R : Room} {s : State} {vm1 : Vm} {m : MethodId} {args : Array Value} {below : List Frame} {meth : Method} {c : Code} {T : State} {locs : List Loc} {cells slots : Nat} {F : JFrame} {Q : Option Value → Heap → List Loc → Prop} {ck sk k0 : Nat}
    (X : Stand p l e R (s.setVm vm1) m args below meth c T locs cells slots) (hS : s.Since vm1 k0) (hk : k0 ≤ T.heap.size) {v : Option Value} (hv : meth.sig.returnType = none → v = none) (hQ : Q v T.heap locs) (hc : cells ≤ ck) (hs : slots ≤ sk)
    (hst : ∀ fs, (∀ (f : JFrame) (acts : List Action), f.method = m → f.locked = none → f.entered = [] → (doReturn e (T.setTop f) acts v).1 = T.setFrames fs) → Steps p.tables e below (T.setTop F) (T.setFrames fs)) (hlocks : meth.locks = false := by first | assumption | exact BodyLoose.notSynchronized (by assumption) | exact Body.notSynchronized (by assumption)) : oE p.tables e below (own_PW s Q ck sk) (T.setTop F) := by
  obtain ⟨fs, hr, hrun, hended, h1, h2, h3, h4⟩ := X.leaveW hS hk hv hlocks
  exact ⟨_, _, hst fs hr, hrun, hended, _, _, rfl, hQ, h1, h2, h3, h4.mono hc hs⟩
theorem own_old_le {Z : State} {n0 : Nat} {h : Heap} (O : Old Z n0 h) : n0 ≤ h.size := O.1 ▸ O.2.1
theorem own_le {a b : Nat} (h : Nat.ble a b = true) : a ≤ b := Nat.le_of_ble_eq_true h
theorem own_lt {a b : Nat} (h : Nat.ble (a + 1) b = true) : a < b := Nat.le_of_ble_eq_true h
theorem own_fr {n0 : Nat} {L A B : List Loc} (q : L = A ++ B) (a : Fr n0 A) (b : Fr n0 B) : Fr n0 L := by rw [q]; exact Fr.app a b
theorem own_irr (x : Int32) : ¬ x < x := by rw [Int32.lt_iff_toInt_lt]; omega
theorem own_eqI {args : Array Value} {s : State} {t : Term} {k : Int32} (h : (Jvm.Cond.eq t (.int k)).value args s none s [] = some true) : t.eval args s none [] s = some (.int k) := by
  obtain ⟨x, y, hx, hy, -, hk⟩ := cmp_v (Or.inl h)
  cases (show some (Value.int k) = some y from hy)
  obtain ⟨z, rfl⟩ := hk
  have e : (Term.int k).eval args s none [] s = some (.int k) := rfl
  simp only [Cond.value, hx, e, Option.some.injEq, decide_eq_true_eq] at h
  rw [hx]
  simp_all
theorem own_intne {a b : Int32} (h : a ≠ b) : Value.int a ≠ Value.int b := fun q => h (Value.int.inj q)

abbrev oM0 : MethodName := ⟨"com/example/quittance/quittance/apply/CashApplicationFitsDescriptionPinLaw", "draw", "(I)C"⟩
abbrev oM1 : MethodName := ⟨"com/example/quittance/quittance/apply/CashApplicationFitsDescriptionPinLaw", "chars", "(ICCCC)[C"⟩
abbrev oM2 : MethodName := ⟨"jdk/internal/util/Preconditions", "checkIndex", "(IILjava/util/function/BiFunction;)I"⟩
abbrev oM3 : MethodName := ⟨"java/lang/String", "checkIndex", "(II)V"⟩
abbrev oM4 : MethodName := ⟨"java/lang/Character", "isISOControl", "(I)Z"⟩
abbrev oM5 : MethodName := ⟨"java/lang/Character", "isISOControl", "(C)Z"⟩
abbrev oM6 : MethodName := ⟨"com/example/quittance/quittance/apply/CashApplicationFitsDescriptionPinLaw", "fits", "(C)Z"⟩
abbrev oM7 : MethodName := ⟨"java/lang/StringUTF16", "putChar", "([BII)V"⟩
abbrev oM8 : MethodName := ⟨"java/lang/StringUTF16", "getChar", "([BI)C"⟩
abbrev oM9 : MethodName := ⟨"java/lang/StringUTF16", "newBytesLength", "(I)I"⟩
abbrev oM10 : MethodName := ⟨"java/lang/StringUTF16", "newBytesFor", "(I)[B"⟩
abbrev oM11 : MethodName := ⟨"java/lang/StringUTF16", "toBytes", "([CII)[B"⟩
abbrev oM12 : MethodName := ⟨"java/lang/StringUTF16", "coderFromArrayLen", "([BI)B"⟩
abbrev oM13 : MethodName := ⟨"java/lang/StringUTF16", "compress", "([CI[BII)I"⟩
abbrev oM14 : MethodName := ⟨"java/lang/StringUTF16", "compress", "([CII)[B"⟩
abbrev oM15 : MethodName := ⟨"java/lang/String", "<init>", "([CIILjava/lang/Void;)V"⟩
abbrev oM16 : MethodName := ⟨"java/lang/String", "<init>", "([C)V"⟩
abbrev oM17 : MethodName := ⟨"java/lang/String", "coder", "()B"⟩
abbrev oM18 : MethodName := ⟨"java/lang/String", "isLatin1", "()Z"⟩
abbrev oM19 : MethodName := ⟨"java/lang/StringLatin1", "charAt", "([BI)C"⟩
abbrev oM20 : MethodName := ⟨"java/lang/StringUTF16", "length", "([B)I"⟩
abbrev oM21 : MethodName := ⟨"java/lang/StringUTF16", "checkIndex", "(I[B)V"⟩
abbrev oM22 : MethodName := ⟨"java/lang/StringUTF16", "charAt", "([BI)C"⟩
abbrev oM23 : MethodName := ⟨"java/lang/String", "charAt", "(I)C"⟩
abbrev oM24 : MethodName := ⟨"java/lang/String", "length", "()I"⟩
abbrev oM25 : MethodName := ⟨"com/example/quittance/quittance/apply/CashApplication", "fitsDescription", "(Ljava/lang/String;)Z"⟩
abbrev oW (a0 : Array Value) (Z : State) : Prop := ∀ d ∈ tables_1, d.before a0 Z = true
theorem ow0 {Z a0} (hw : oW a0 Z) : (Jvm.Cond.constant "com/example/quittance/quittance/apply/CashApplicationFitsDescriptionPinLaw" (7 : Nat) (2147483647 : Int32)).before a0 Z = true := hw _ (List.mem_of_getElem? (i := 0) rfl)
theorem ow1 {Z a0} (hw : oW a0 Z) : (Jvm.Cond.methodLink "com/example/quittance/quittance/apply/CashApplicationFitsDescriptionPinLaw" (8 : Nat) ({ cls := "com/example/quittance/quittance/apply/CashApplicationFitsDescriptionPinLaw", name := "draw", desc := "(I)C" } : Jvm.MethodName)).before a0 Z = true := hw _ (List.mem_of_getElem? (i := 1) rfl)
theorem ow2 {Z a0} (hw : oW a0 Z) : (Jvm.Cond.static ({ cls := "com/example/quittance/quittance/apply/CashApplicationFitsDescriptionPinLaw", name := "draw", desc := "(I)C" } : Jvm.MethodName)).before a0 Z = true := hw _ (List.mem_of_getElem? (i := 2) rfl)
theorem ow3 {Z a0} (hw : oW a0 Z) : (Jvm.Cond.initialized "com/example/quittance/quittance/apply/CashApplicationFitsDescriptionPinLaw").before a0 Z = true := hw _ (List.mem_of_getElem? (i := 3) rfl)
theorem ow4 {Z a0} (hw : oW a0 Z) : (Jvm.Cond.code ({ cls := "com/example/quittance/quittance/apply/CashApplicationFitsDescriptionPinLaw", name := "draw", desc := "(I)C" } : Jvm.MethodName) method_3_code (1 : Nat) (Option.some Jvm.ClassFile.FieldType.char)).before a0 Z = true := hw _ (List.mem_of_getElem? (i := 4) rfl)
theorem ow5 {Z a0} (hw : oW a0 Z) : (Jvm.Cond.constant "com/example/quittance/quittance/apply/CashApplicationFitsDescriptionPinLaw" (33 : Nat) (65536 : Int32)).before a0 Z = true := hw _ (List.mem_of_getElem? (i := 5) rfl)
theorem ow6 {Z a0} (hw : oW a0 Z) : (Jvm.Cond.constant "com/example/quittance/quittance/apply/CashApplicationFitsDescriptionPinLaw" (34 : Nat) (65535 : Int32)).before a0 Z = true := hw _ (List.mem_of_getElem? (i := 6) rfl)
theorem ow7 {Z a0} (hw : oW a0 Z) : (Jvm.Cond.classLink "com/example/quittance/quittance/apply/CashApplicationFitsDescriptionPinLaw" (14 : Nat) "java/lang/String").before a0 Z = true := hw _ (List.mem_of_getElem? (i := 7) rfl)
theorem ow8 {Z a0} (hw : oW a0 Z) : (Jvm.Cond.instantiable "java/lang/String" (4 : Nat)).before a0 Z = true := hw _ (List.mem_of_getElem? (i := 8) rfl)
theorem ow9 {Z a0} (hw : oW a0 Z) : (Jvm.Cond.initialized "java/lang/String").before a0 Z = true := hw _ (List.mem_of_getElem? (i := 9) rfl)
theorem ow10 {Z a0} (hw : oW a0 Z) : (Jvm.Cond.methodLink "com/example/quittance/quittance/apply/CashApplicationFitsDescriptionPinLaw" (16 : Nat) ({ cls := "com/example/quittance/quittance/apply/CashApplicationFitsDescriptionPinLaw", name := "chars", desc := "(ICCCC)[C" } : Jvm.MethodName)).before a0 Z = true := hw _ (List.mem_of_getElem? (i := 10) rfl)
theorem ow11 {Z a0} (hw : oW a0 Z) : (Jvm.Cond.static ({ cls := "com/example/quittance/quittance/apply/CashApplicationFitsDescriptionPinLaw", name := "chars", desc := "(ICCCC)[C" } : Jvm.MethodName)).before a0 Z = true := hw _ (List.mem_of_getElem? (i := 11) rfl)
theorem ow12 {Z a0} (hw : oW a0 Z) : (Jvm.Cond.code ({ cls := "com/example/quittance/quittance/apply/CashApplicationFitsDescriptionPinLaw", name := "chars", desc := "(ICCCC)[C" } : Jvm.MethodName) method_5_code (5 : Nat) (Option.some (Jvm.ClassFile.FieldType.array Jvm.ClassFile.FieldType.char))).before a0 Z = true := hw _ (List.mem_of_getElem? (i := 12) rfl)
theorem ow13 {Z a0} (hw : oW a0 Z) : (Jvm.Cond.arrayClass Jvm.ClassFile.FieldType.char).before a0 Z = true := hw _ (List.mem_of_getElem? (i := 13) rfl)
theorem ow14 {Z a0} (hw : oW a0 Z) : (Jvm.Cond.methodLink "com/example/quittance/quittance/apply/CashApplicationFitsDescriptionPinLaw" (20 : Nat) ({ cls := "java/lang/String", name := "<init>", desc := "([C)V" } : Jvm.MethodName)).before a0 Z = true := hw _ (List.mem_of_getElem? (i := 14) rfl)
theorem ow15 {Z a0} (hw : oW a0 Z) : (Jvm.Cond.instanceMethod ({ cls := "java/lang/String", name := "<init>", desc := "([C)V" } : Jvm.MethodName)).before a0 Z = true := hw _ (List.mem_of_getElem? (i := 15) rfl)
theorem ow16 {Z a0} (hw : oW a0 Z) : (Jvm.Cond.code ({ cls := "java/lang/String", name := "<init>", desc := "([C)V" } : Jvm.MethodName) jdk_42_method_3_code (2 : Nat) (Option.none : Option Jvm.ClassFile.FieldType)).before a0 Z = true := hw _ (List.mem_of_getElem? (i := 16) rfl)
theorem ow17 {Z a0} (hw : oW a0 Z) : (Jvm.Cond.methodLink "java/lang/String" (27 : Nat) ({ cls := "java/lang/String", name := "<init>", desc := "([CIILjava/lang/Void;)V" } : Jvm.MethodName)).before a0 Z = true := hw _ (List.mem_of_getElem? (i := 17) rfl)
theorem ow18 {Z a0} (hw : oW a0 Z) : (Jvm.Cond.instanceMethod ({ cls := "java/lang/String", name := "<init>", desc := "([CIILjava/lang/Void;)V" } : Jvm.MethodName)).before a0 Z = true := hw _ (List.mem_of_getElem? (i := 18) rfl)
theorem ow20 {Z a0} (hw : oW a0 Z) : (Jvm.Cond.code ({ cls := "java/lang/String", name := "<init>", desc := "([CIILjava/lang/Void;)V" } : Jvm.MethodName) jdk_42_method_149_code (6 : Nat) (Option.none : Option Jvm.ClassFile.FieldType)).before a0 Z = true := hw _ (List.mem_of_getElem? (i := 20) rfl)
theorem ow21 {Z a0} (hw : oW a0 Z) : (Jvm.Cond.methodLink "java/lang/String" (1 : Nat) ({ cls := "java/lang/Object", name := "<init>", desc := "()V" } : Jvm.MethodName)).before a0 Z = true := hw _ (List.mem_of_getElem? (i := 21) rfl)
theorem ow22 {Z a0} (hw : oW a0 Z) : (Jvm.Cond.instanceMethod ({ cls := "java/lang/Object", name := "<init>", desc := "()V" } : Jvm.MethodName)).before a0 Z = true := hw _ (List.mem_of_getElem? (i := 22) rfl)
theorem ow23 {Z a0} (hw : oW a0 Z) : (Jvm.Cond.code ({ cls := "java/lang/Object", name := "<init>", desc := "()V" } : Jvm.MethodName) object_method_1_code (1 : Nat) (Option.none : Option Jvm.ClassFile.FieldType)).before a0 Z = true := hw _ (List.mem_of_getElem? (i := 23) rfl)
theorem ow24 {Z a0} (hw : oW a0 Z) : (Jvm.Cond.stringLink "java/lang/String" (7 : Nat) "").before a0 Z = true := hw _ (List.mem_of_getElem? (i := 24) rfl)
theorem ow25 {Z a0} (hw : oW a0 Z) : (Jvm.Cond.arrayClass Jvm.ClassFile.FieldType.byte).before a0 Z = true := hw _ (List.mem_of_getElem? (i := 25) rfl)
theorem ow26 {Z a0} (hw : oW a0 Z) : (Jvm.Cond.laysFinal "java/lang/String" "java/lang/String" "value" "[B").before a0 Z = true := hw _ (List.mem_of_getElem? (i := 26) rfl)
theorem ow27 {Z a0} (hw : oW a0 Z) : (Jvm.Cond.laysFinal "java/lang/String" "java/lang/String" "coder" "B").before a0 Z = true := hw _ (List.mem_of_getElem? (i := 27) rfl)
theorem ow28 {Z a0} (hw : oW a0 Z) : (Jvm.Cond.soleField "java/lang/String" "value").before a0 Z = true := hw _ (List.mem_of_getElem? (i := 28) rfl)
theorem ow29 {Z a0} (hw : oW a0 Z) : (Jvm.Cond.soleField "java/lang/String" "coder").before a0 Z = true := hw _ (List.mem_of_getElem? (i := 29) rfl)
theorem ow30 {Z a0} (hw : oW a0 Z) : (Jvm.Cond.fieldLink "java/lang/String" (9 : Nat) "java/lang/String" "value" "[B").before a0 Z = true := hw _ (List.mem_of_getElem? (i := 30) rfl)
theorem ow31 {Z a0} (hw : oW a0 Z) : (Jvm.Cond.fieldLink "java/lang/String" (15 : Nat) "java/lang/String" "coder" "B").before a0 Z = true := hw _ (List.mem_of_getElem? (i := 31) rfl)
theorem ow32 {Z a0} (hw : oW a0 Z) : (Jvm.Cond.methodLink "com/example/quittance/quittance/apply/CashApplicationFitsDescriptionPinLaw" (27 : Nat) ({ cls := "com/example/quittance/quittance/apply/CashApplication", name := "fitsDescription", desc := "(Ljava/lang/String;)Z" } : Jvm.MethodName)).before a0 Z = true := hw _ (List.mem_of_getElem? (i := 32) rfl)
theorem ow33 {Z a0} (hw : oW a0 Z) : (Jvm.Cond.static ({ cls := "com/example/quittance/quittance/apply/CashApplication", name := "fitsDescription", desc := "(Ljava/lang/String;)Z" } : Jvm.MethodName)).before a0 Z = true := hw _ (List.mem_of_getElem? (i := 33) rfl)
theorem ow34 {Z a0} (hw : oW a0 Z) : (Jvm.Cond.initialized "com/example/quittance/quittance/apply/CashApplication").before a0 Z = true := hw _ (List.mem_of_getElem? (i := 34) rfl)
theorem ow35 {Z a0} (hw : oW a0 Z) : (Jvm.Cond.code ({ cls := "com/example/quittance/quittance/apply/CashApplication", name := "fitsDescription", desc := "(Ljava/lang/String;)Z" } : Jvm.MethodName) prog_16_method_16_code (3 : Nat) (Option.some Jvm.ClassFile.FieldType.boolean)).before a0 Z = true := hw _ (List.mem_of_getElem? (i := 35) rfl)
theorem ow36 {Z a0} (hw : oW a0 Z) : (Jvm.Cond.methodLink "com/example/quittance/quittance/apply/CashApplication" (471 : Nat) ({ cls := "java/lang/String", name := "length", desc := "()I" } : Jvm.MethodName)).before a0 Z = true := hw _ (List.mem_of_getElem? (i := 36) rfl)
theorem ow37 {Z a0} (hw : oW a0 Z) : (Jvm.Cond.declares ({ cls := "java/lang/String", name := "length", desc := "()I" } : Jvm.MethodName)).before a0 Z = true := hw _ (List.mem_of_getElem? (i := 37) rfl)
theorem ow38 {Z a0} (hw : oW a0 Z) : (Jvm.Cond.instanceMethod ({ cls := "java/lang/String", name := "length", desc := "()I" } : Jvm.MethodName)).before a0 Z = true := hw _ (List.mem_of_getElem? (i := 38) rfl)
theorem ow39 {Z a0} (hw : oW a0 Z) : (Jvm.Cond.selects "java/lang/String" ({ cls := "java/lang/String", name := "length", desc := "()I" } : Jvm.MethodName) ({ cls := "java/lang/String", name := "length", desc := "()I" } : Jvm.MethodName)).before a0 Z = true := hw _ (List.mem_of_getElem? (i := 39) rfl)
theorem ow40 {Z a0} (hw : oW a0 Z) : (Jvm.Cond.code ({ cls := "java/lang/String", name := "length", desc := "()I" } : Jvm.MethodName) jdk_42_method_54_code (1 : Nat) (Option.some Jvm.ClassFile.FieldType.int)).before a0 Z = true := hw _ (List.mem_of_getElem? (i := 40) rfl)
theorem ow41 {Z a0} (hw : oW a0 Z) : (Jvm.Cond.methodLink "java/lang/String" (335 : Nat) ({ cls := "java/lang/String", name := "coder", desc := "()B" } : Jvm.MethodName)).before a0 Z = true := hw _ (List.mem_of_getElem? (i := 41) rfl)
theorem ow42 {Z a0} (hw : oW a0 Z) : (Jvm.Cond.declares ({ cls := "java/lang/String", name := "coder", desc := "()B" } : Jvm.MethodName)).before a0 Z = true := hw _ (List.mem_of_getElem? (i := 42) rfl)
theorem ow43 {Z a0} (hw : oW a0 Z) : (Jvm.Cond.instanceMethod ({ cls := "java/lang/String", name := "coder", desc := "()B" } : Jvm.MethodName)).before a0 Z = true := hw _ (List.mem_of_getElem? (i := 43) rfl)
theorem ow44 {Z a0} (hw : oW a0 Z) : (Jvm.Cond.selects "java/lang/String" ({ cls := "java/lang/String", name := "coder", desc := "()B" } : Jvm.MethodName) ({ cls := "java/lang/String", name := "coder", desc := "()B" } : Jvm.MethodName)).before a0 Z = true := hw _ (List.mem_of_getElem? (i := 44) rfl)
theorem ow45 {Z a0} (hw : oW a0 Z) : (Jvm.Cond.code ({ cls := "java/lang/String", name := "coder", desc := "()B" } : Jvm.MethodName) jdk_42_method_152_code (1 : Nat) (Option.some Jvm.ClassFile.FieldType.byte)).before a0 Z = true := hw _ (List.mem_of_getElem? (i := 45) rfl)
theorem ow46 {Z a0} (hw : oW a0 Z) : (Jvm.Cond.fieldLink "java/lang/String" (38 : Nat) "java/lang/String" "COMPACT_STRINGS" "Z").before a0 Z = true := hw _ (List.mem_of_getElem? (i := 46) rfl)
theorem ow47 {Z a0} (hw : oW a0 Z) : (Jvm.Cond.methodLink "java/lang/String" (177 : Nat) ({ cls := "java/lang/StringUTF16", name := "compress", desc := "([CII)[B" } : Jvm.MethodName)).before a0 Z = true := hw _ (List.mem_of_getElem? (i := 47) rfl)
theorem ow48 {Z a0} (hw : oW a0 Z) : (Jvm.Cond.static ({ cls := "java/lang/StringUTF16", name := "compress", desc := "([CII)[B" } : Jvm.MethodName)).before a0 Z = true := hw _ (List.mem_of_getElem? (i := 48) rfl)
theorem ow49 {Z a0} (hw : oW a0 Z) : (Jvm.Cond.initialized "java/lang/StringUTF16").before a0 Z = true := hw _ (List.mem_of_getElem? (i := 49) rfl)
theorem ow50 {Z a0} (hw : oW a0 Z) : (Jvm.Cond.code ({ cls := "java/lang/StringUTF16", name := "compress", desc := "([CII)[B" } : Jvm.MethodName) jdk_52_method_16_code (6 : Nat) (Option.some (Jvm.ClassFile.FieldType.array Jvm.ClassFile.FieldType.byte))).before a0 Z = true := hw _ (List.mem_of_getElem? (i := 50) rfl)
theorem ow51 {Z a0} (hw : oW a0 Z) : (Jvm.Cond.methodLink "java/lang/StringUTF16" (115 : Nat) ({ cls := "java/lang/StringUTF16", name := "compress", desc := "([CI[BII)I" } : Jvm.MethodName)).before a0 Z = true := hw _ (List.mem_of_getElem? (i := 51) rfl)
theorem ow52 {Z a0} (hw : oW a0 Z) : (Jvm.Cond.static ({ cls := "java/lang/StringUTF16", name := "compress", desc := "([CI[BII)I" } : Jvm.MethodName)).before a0 Z = true := hw _ (List.mem_of_getElem? (i := 52) rfl)
theorem ow53 {Z a0} (hw : oW a0 Z) : (Jvm.Cond.code ({ cls := "java/lang/StringUTF16", name := "compress", desc := "([CI[BII)I" } : Jvm.MethodName) jdk_52_method_21_code (7 : Nat) (Option.some Jvm.ClassFile.FieldType.int)).before a0 Z = true := hw _ (List.mem_of_getElem? (i := 53) rfl)
theorem ow54 {Z a0} (hw : oW a0 Z) : (Jvm.Cond.methodLink "java/lang/String" (47 : Nat) ({ cls := "java/lang/StringUTF16", name := "coderFromArrayLen", desc := "([BI)B" } : Jvm.MethodName)).before a0 Z = true := hw _ (List.mem_of_getElem? (i := 54) rfl)
theorem ow55 {Z a0} (hw : oW a0 Z) : (Jvm.Cond.static ({ cls := "java/lang/StringUTF16", name := "coderFromArrayLen", desc := "([BI)B" } : Jvm.MethodName)).before a0 Z = true := hw _ (List.mem_of_getElem? (i := 55) rfl)
theorem ow56 {Z a0} (hw : oW a0 Z) : (Jvm.Cond.code ({ cls := "java/lang/StringUTF16", name := "coderFromArrayLen", desc := "([BI)B" } : Jvm.MethodName) jdk_52_method_15_code (2 : Nat) (Option.some Jvm.ClassFile.FieldType.byte)).before a0 Z = true := hw _ (List.mem_of_getElem? (i := 56) rfl)
theorem ow57 {Z a0} (hw : oW a0 Z) : (Jvm.Cond.methodLink "com/example/quittance/quittance/apply/CashApplicationFitsDescriptionPinLaw" (23 : Nat) ({ cls := "com/example/quittance/quittance/apply/CashApplicationFitsDescriptionPinLaw", name := "fits", desc := "(C)Z" } : Jvm.MethodName)).before a0 Z = true := hw _ (List.mem_of_getElem? (i := 57) rfl)
theorem ow58 {Z a0} (hw : oW a0 Z) : (Jvm.Cond.static ({ cls := "com/example/quittance/quittance/apply/CashApplicationFitsDescriptionPinLaw", name := "fits", desc := "(C)Z" } : Jvm.MethodName)).before a0 Z = true := hw _ (List.mem_of_getElem? (i := 58) rfl)
theorem ow59 {Z a0} (hw : oW a0 Z) : (Jvm.Cond.code ({ cls := "com/example/quittance/quittance/apply/CashApplicationFitsDescriptionPinLaw", name := "fits", desc := "(C)Z" } : Jvm.MethodName) method_4_code (1 : Nat) (Option.some Jvm.ClassFile.FieldType.boolean)).before a0 Z = true := hw _ (List.mem_of_getElem? (i := 59) rfl)
theorem ow60 {Z a0} (hw : oW a0 Z) : (Jvm.Cond.methodLink "com/example/quittance/quittance/apply/CashApplication" (474 : Nat) ({ cls := "java/lang/String", name := "charAt", desc := "(I)C" } : Jvm.MethodName)).before a0 Z = true := hw _ (List.mem_of_getElem? (i := 60) rfl)
theorem ow61 {Z a0} (hw : oW a0 Z) : (Jvm.Cond.declares ({ cls := "java/lang/String", name := "charAt", desc := "(I)C" } : Jvm.MethodName)).before a0 Z = true := hw _ (List.mem_of_getElem? (i := 61) rfl)
theorem ow62 {Z a0} (hw : oW a0 Z) : (Jvm.Cond.instanceMethod ({ cls := "java/lang/String", name := "charAt", desc := "(I)C" } : Jvm.MethodName)).before a0 Z = true := hw _ (List.mem_of_getElem? (i := 62) rfl)
theorem ow63 {Z a0} (hw : oW a0 Z) : (Jvm.Cond.selects "java/lang/String" ({ cls := "java/lang/String", name := "charAt", desc := "(I)C" } : Jvm.MethodName) ({ cls := "java/lang/String", name := "charAt", desc := "(I)C" } : Jvm.MethodName)).before a0 Z = true := hw _ (List.mem_of_getElem? (i := 63) rfl)
theorem ow64 {Z a0} (hw : oW a0 Z) : (Jvm.Cond.code ({ cls := "java/lang/String", name := "charAt", desc := "(I)C" } : Jvm.MethodName) jdk_42_method_56_code (2 : Nat) (Option.some Jvm.ClassFile.FieldType.char)).before a0 Z = true := hw _ (List.mem_of_getElem? (i := 64) rfl)
theorem ow65 {Z a0} (hw : oW a0 Z) : (Jvm.Cond.methodLink "java/lang/String" (492 : Nat) ({ cls := "java/lang/String", name := "isLatin1", desc := "()Z" } : Jvm.MethodName)).before a0 Z = true := hw _ (List.mem_of_getElem? (i := 65) rfl)
theorem ow66 {Z a0} (hw : oW a0 Z) : (Jvm.Cond.declares ({ cls := "java/lang/String", name := "isLatin1", desc := "()Z" } : Jvm.MethodName)).before a0 Z = true := hw _ (List.mem_of_getElem? (i := 66) rfl)
theorem ow67 {Z a0} (hw : oW a0 Z) : (Jvm.Cond.instanceMethod ({ cls := "java/lang/String", name := "isLatin1", desc := "()Z" } : Jvm.MethodName)).before a0 Z = true := hw _ (List.mem_of_getElem? (i := 67) rfl)
theorem ow68 {Z a0} (hw : oW a0 Z) : (Jvm.Cond.selects "java/lang/String" ({ cls := "java/lang/String", name := "isLatin1", desc := "()Z" } : Jvm.MethodName) ({ cls := "java/lang/String", name := "isLatin1", desc := "()Z" } : Jvm.MethodName)).before a0 Z = true := hw _ (List.mem_of_getElem? (i := 68) rfl)
theorem ow69 {Z a0} (hw : oW a0 Z) : (Jvm.Cond.code ({ cls := "java/lang/String", name := "isLatin1", desc := "()Z" } : Jvm.MethodName) jdk_42_method_154_code (1 : Nat) (Option.some Jvm.ClassFile.FieldType.boolean)).before a0 Z = true := hw _ (List.mem_of_getElem? (i := 69) rfl)
theorem ow70 {Z a0} (hw : oW a0 Z) : (Jvm.Cond.methodLink "java/lang/String" (495 : Nat) ({ cls := "java/lang/StringLatin1", name := "charAt", desc := "([BI)C" } : Jvm.MethodName)).before a0 Z = true := hw _ (List.mem_of_getElem? (i := 70) rfl)
theorem ow71 {Z a0} (hw : oW a0 Z) : (Jvm.Cond.static ({ cls := "java/lang/StringLatin1", name := "charAt", desc := "([BI)C" } : Jvm.MethodName)).before a0 Z = true := hw _ (List.mem_of_getElem? (i := 71) rfl)
theorem ow72 {Z a0} (hw : oW a0 Z) : (Jvm.Cond.initialized "java/lang/StringLatin1").before a0 Z = true := hw _ (List.mem_of_getElem? (i := 72) rfl)
theorem ow73 {Z a0} (hw : oW a0 Z) : (Jvm.Cond.code ({ cls := "java/lang/StringLatin1", name := "charAt", desc := "([BI)C" } : Jvm.MethodName) jdk_43_method_2_code (2 : Nat) (Option.some Jvm.ClassFile.FieldType.char)).before a0 Z = true := hw _ (List.mem_of_getElem? (i := 73) rfl)
theorem ow74 {Z a0} (hw : oW a0 Z) : (Jvm.Cond.methodLink "java/lang/StringLatin1" (9 : Nat) ({ cls := "java/lang/String", name := "checkIndex", desc := "(II)V" } : Jvm.MethodName)).before a0 Z = true := hw _ (List.mem_of_getElem? (i := 74) rfl)
theorem ow75 {Z a0} (hw : oW a0 Z) : (Jvm.Cond.static ({ cls := "java/lang/String", name := "checkIndex", desc := "(II)V" } : Jvm.MethodName)).before a0 Z = true := hw _ (List.mem_of_getElem? (i := 75) rfl)
theorem ow76 {Z a0} (hw : oW a0 Z) : (Jvm.Cond.code ({ cls := "java/lang/String", name := "checkIndex", desc := "(II)V" } : Jvm.MethodName) jdk_42_method_155_code (2 : Nat) (Option.none : Option Jvm.ClassFile.FieldType)).before a0 Z = true := hw _ (List.mem_of_getElem? (i := 76) rfl)
theorem ow77 {Z a0} (hw : oW a0 Z) : (Jvm.Cond.fieldLink "java/lang/String" (1053 : Nat) "jdk/internal/util/Preconditions" "SIOOBE_FORMATTER" "Ljava/util/function/BiFunction;").before a0 Z = true := hw _ (List.mem_of_getElem? (i := 77) rfl)
theorem ow78 {Z a0} (hw : oW a0 Z) : (Jvm.Cond.initialized "jdk/internal/util/Preconditions").before a0 Z = true := hw _ (List.mem_of_getElem? (i := 78) rfl)
theorem ow79 {Z a0} (hw : oW a0 Z) : (Jvm.Cond.methodLink "java/lang/String" (1059 : Nat) ({ cls := "jdk/internal/util/Preconditions", name := "checkIndex", desc := "(IILjava/util/function/BiFunction;)I" } : Jvm.MethodName)).before a0 Z = true := hw _ (List.mem_of_getElem? (i := 79) rfl)
theorem ow80 {Z a0} (hw : oW a0 Z) : (Jvm.Cond.static ({ cls := "jdk/internal/util/Preconditions", name := "checkIndex", desc := "(IILjava/util/function/BiFunction;)I" } : Jvm.MethodName)).before a0 Z = true := hw _ (List.mem_of_getElem? (i := 80) rfl)
theorem ow81 {Z a0} (hw : oW a0 Z) : (Jvm.Cond.code ({ cls := "jdk/internal/util/Preconditions", name := "checkIndex", desc := "(IILjava/util/function/BiFunction;)I" } : Jvm.MethodName) jdk_41_method_11_code (3 : Nat) (Option.some Jvm.ClassFile.FieldType.int)).before a0 Z = true := hw _ (List.mem_of_getElem? (i := 81) rfl)
theorem ow82 {Z a0} (hw : oW a0 Z) : (Jvm.Cond.methodLink "com/example/quittance/quittance/apply/CashApplication" (478 : Nat) ({ cls := "java/lang/Character", name := "isISOControl", desc := "(C)Z" } : Jvm.MethodName)).before a0 Z = true := hw _ (List.mem_of_getElem? (i := 82) rfl)
theorem ow83 {Z a0} (hw : oW a0 Z) : (Jvm.Cond.static ({ cls := "java/lang/Character", name := "isISOControl", desc := "(C)Z" } : Jvm.MethodName)).before a0 Z = true := hw _ (List.mem_of_getElem? (i := 83) rfl)
theorem ow84 {Z a0} (hw : oW a0 Z) : (Jvm.Cond.initialized "java/lang/Character").before a0 Z = true := hw _ (List.mem_of_getElem? (i := 84) rfl)
theorem ow85 {Z a0} (hw : oW a0 Z) : (Jvm.Cond.code ({ cls := "java/lang/Character", name := "isISOControl", desc := "(C)Z" } : Jvm.MethodName) jdk_89_method_88_code (1 : Nat) (Option.some Jvm.ClassFile.FieldType.boolean)).before a0 Z = true := hw _ (List.mem_of_getElem? (i := 85) rfl)
theorem ow86 {Z a0} (hw : oW a0 Z) : (Jvm.Cond.methodLink "java/lang/Character" (266 : Nat) ({ cls := "java/lang/Character", name := "isISOControl", desc := "(I)Z" } : Jvm.MethodName)).before a0 Z = true := hw _ (List.mem_of_getElem? (i := 86) rfl)
theorem ow87 {Z a0} (hw : oW a0 Z) : (Jvm.Cond.static ({ cls := "java/lang/Character", name := "isISOControl", desc := "(I)Z" } : Jvm.MethodName)).before a0 Z = true := hw _ (List.mem_of_getElem? (i := 87) rfl)
theorem ow88 {Z a0} (hw : oW a0 Z) : (Jvm.Cond.code ({ cls := "java/lang/Character", name := "isISOControl", desc := "(I)Z" } : Jvm.MethodName) jdk_89_method_89_code (1 : Nat) (Option.some Jvm.ClassFile.FieldType.boolean)).before a0 Z = true := hw _ (List.mem_of_getElem? (i := 88) rfl)
theorem ow89 {Z a0} (hw : oW a0 Z) : (Jvm.Cond.methodLink "java/lang/StringUTF16" (119 : Nat) ({ cls := "java/lang/StringUTF16", name := "toBytes", desc := "([CII)[B" } : Jvm.MethodName)).before a0 Z = true := hw _ (List.mem_of_getElem? (i := 89) rfl)
theorem ow90 {Z a0} (hw : oW a0 Z) : (Jvm.Cond.static ({ cls := "java/lang/StringUTF16", name := "toBytes", desc := "([CII)[B" } : Jvm.MethodName)).before a0 Z = true := hw _ (List.mem_of_getElem? (i := 90) rfl)
theorem ow91 {Z a0} (hw : oW a0 Z) : (Jvm.Cond.code ({ cls := "java/lang/StringUTF16", name := "toBytes", desc := "([CII)[B" } : Jvm.MethodName) jdk_52_method_14_code (5 : Nat) (Option.some (Jvm.ClassFile.FieldType.array Jvm.ClassFile.FieldType.byte))).before a0 Z = true := hw _ (List.mem_of_getElem? (i := 91) rfl)
theorem ow92 {Z a0} (hw : oW a0 Z) : (Jvm.Cond.methodLink "java/lang/StringUTF16" (107 : Nat) ({ cls := "java/lang/StringUTF16", name := "newBytesFor", desc := "(I)[B" } : Jvm.MethodName)).before a0 Z = true := hw _ (List.mem_of_getElem? (i := 92) rfl)
theorem ow93 {Z a0} (hw : oW a0 Z) : (Jvm.Cond.static ({ cls := "java/lang/StringUTF16", name := "newBytesFor", desc := "(I)[B" } : Jvm.MethodName)).before a0 Z = true := hw _ (List.mem_of_getElem? (i := 93) rfl)
theorem ow94 {Z a0} (hw : oW a0 Z) : (Jvm.Cond.code ({ cls := "java/lang/StringUTF16", name := "newBytesFor", desc := "(I)[B" } : Jvm.MethodName) jdk_52_method_2_code (1 : Nat) (Option.some (Jvm.ClassFile.FieldType.array Jvm.ClassFile.FieldType.byte))).before a0 Z = true := hw _ (List.mem_of_getElem? (i := 94) rfl)
theorem ow95 {Z a0} (hw : oW a0 Z) : (Jvm.Cond.methodLink "java/lang/StringUTF16" (11 : Nat) ({ cls := "java/lang/StringUTF16", name := "newBytesLength", desc := "(I)I" } : Jvm.MethodName)).before a0 Z = true := hw _ (List.mem_of_getElem? (i := 95) rfl)
theorem ow96 {Z a0} (hw : oW a0 Z) : (Jvm.Cond.static ({ cls := "java/lang/StringUTF16", name := "newBytesLength", desc := "(I)I" } : Jvm.MethodName)).before a0 Z = true := hw _ (List.mem_of_getElem? (i := 96) rfl)
theorem ow97 {Z a0} (hw : oW a0 Z) : (Jvm.Cond.code ({ cls := "java/lang/StringUTF16", name := "newBytesLength", desc := "(I)I" } : Jvm.MethodName) jdk_52_method_3_code (1 : Nat) (Option.some Jvm.ClassFile.FieldType.int)).before a0 Z = true := hw _ (List.mem_of_getElem? (i := 97) rfl)
theorem ow98 {Z a0} (hw : oW a0 Z) : (Jvm.Cond.constant "java/lang/StringUTF16" (20 : Nat) (1073741823 : Int32)).before a0 Z = true := hw _ (List.mem_of_getElem? (i := 98) rfl)
theorem ow99 {Z a0} (hw : oW a0 Z) : (Jvm.Cond.methodLink "java/lang/StringUTF16" (111 : Nat) ({ cls := "java/lang/StringUTF16", name := "putChar", desc := "([BII)V" } : Jvm.MethodName)).before a0 Z = true := hw _ (List.mem_of_getElem? (i := 99) rfl)
theorem ow100 {Z a0} (hw : oW a0 Z) : (Jvm.Cond.static ({ cls := "java/lang/StringUTF16", name := "putChar", desc := "([BII)V" } : Jvm.MethodName)).before a0 Z = true := hw _ (List.mem_of_getElem? (i := 100) rfl)
theorem ow101 {Z a0} (hw : oW a0 Z) : (Jvm.Cond.code ({ cls := "java/lang/StringUTF16", name := "putChar", desc := "([BII)V" } : Jvm.MethodName) jdk_52_method_4_code (3 : Nat) (Option.none : Option Jvm.ClassFile.FieldType)).before a0 Z = true := hw _ (List.mem_of_getElem? (i := 101) rfl)
theorem ow102 {Z a0} (hw : oW a0 Z) : (Jvm.Cond.fieldLink "java/lang/StringUTF16" (44 : Nat) "java/lang/StringUTF16" "$assertionsDisabled" "Z").before a0 Z = true := hw _ (List.mem_of_getElem? (i := 102) rfl)
theorem ow103 {Z a0} (hw : oW a0 Z) : (Jvm.Cond.fieldLink "java/lang/StringUTF16" (59 : Nat) "java/lang/StringUTF16" "HI_BYTE_SHIFT" "I").before a0 Z = true := hw _ (List.mem_of_getElem? (i := 103) rfl)
theorem ow104 {Z a0} (hw : oW a0 Z) : (Jvm.Cond.fieldLink "java/lang/StringUTF16" (63 : Nat) "java/lang/StringUTF16" "LO_BYTE_SHIFT" "I").before a0 Z = true := hw _ (List.mem_of_getElem? (i := 104) rfl)
theorem ow105 {Z a0} (hw : oW a0 Z) : (Jvm.Cond.methodLink "java/lang/StringUTF16" (71 : Nat) ({ cls := "java/lang/StringUTF16", name := "getChar", desc := "([BI)C" } : Jvm.MethodName)).before a0 Z = true := hw _ (List.mem_of_getElem? (i := 105) rfl)
theorem ow106 {Z a0} (hw : oW a0 Z) : (Jvm.Cond.static ({ cls := "java/lang/StringUTF16", name := "getChar", desc := "([BI)C" } : Jvm.MethodName)).before a0 Z = true := hw _ (List.mem_of_getElem? (i := 106) rfl)
theorem ow107 {Z a0} (hw : oW a0 Z) : (Jvm.Cond.code ({ cls := "java/lang/StringUTF16", name := "getChar", desc := "([BI)C" } : Jvm.MethodName) jdk_52_method_5_code (2 : Nat) (Option.some Jvm.ClassFile.FieldType.char)).before a0 Z = true := hw _ (List.mem_of_getElem? (i := 107) rfl)
theorem ow108 {Z a0} (hw : oW a0 Z) : (Jvm.Cond.methodLink "java/lang/String" (498 : Nat) ({ cls := "java/lang/StringUTF16", name := "charAt", desc := "([BI)C" } : Jvm.MethodName)).before a0 Z = true := hw _ (List.mem_of_getElem? (i := 108) rfl)
theorem ow109 {Z a0} (hw : oW a0 Z) : (Jvm.Cond.static ({ cls := "java/lang/StringUTF16", name := "charAt", desc := "([BI)C" } : Jvm.MethodName)).before a0 Z = true := hw _ (List.mem_of_getElem? (i := 109) rfl)
theorem ow110 {Z a0} (hw : oW a0 Z) : (Jvm.Cond.code ({ cls := "java/lang/StringUTF16", name := "charAt", desc := "([BI)C" } : Jvm.MethodName) jdk_52_method_83_code (2 : Nat) (Option.some Jvm.ClassFile.FieldType.char)).before a0 Z = true := hw _ (List.mem_of_getElem? (i := 110) rfl)
theorem ow111 {Z a0} (hw : oW a0 Z) : (Jvm.Cond.methodLink "java/lang/StringUTF16" (67 : Nat) ({ cls := "java/lang/StringUTF16", name := "checkIndex", desc := "(I[B)V" } : Jvm.MethodName)).before a0 Z = true := hw _ (List.mem_of_getElem? (i := 111) rfl)
theorem ow112 {Z a0} (hw : oW a0 Z) : (Jvm.Cond.static ({ cls := "java/lang/StringUTF16", name := "checkIndex", desc := "(I[B)V" } : Jvm.MethodName)).before a0 Z = true := hw _ (List.mem_of_getElem? (i := 112) rfl)
theorem ow113 {Z a0} (hw : oW a0 Z) : (Jvm.Cond.code ({ cls := "java/lang/StringUTF16", name := "checkIndex", desc := "(I[B)V" } : Jvm.MethodName) jdk_52_method_91_code (2 : Nat) (Option.none : Option Jvm.ClassFile.FieldType)).before a0 Z = true := hw _ (List.mem_of_getElem? (i := 113) rfl)
theorem ow114 {Z a0} (hw : oW a0 Z) : (Jvm.Cond.methodLink "java/lang/StringUTF16" (48 : Nat) ({ cls := "java/lang/StringUTF16", name := "length", desc := "([B)I" } : Jvm.MethodName)).before a0 Z = true := hw _ (List.mem_of_getElem? (i := 114) rfl)
theorem ow115 {Z a0} (hw : oW a0 Z) : (Jvm.Cond.static ({ cls := "java/lang/StringUTF16", name := "length", desc := "([B)I" } : Jvm.MethodName)).before a0 Z = true := hw _ (List.mem_of_getElem? (i := 115) rfl)
theorem ow116 {Z a0} (hw : oW a0 Z) : (Jvm.Cond.code ({ cls := "java/lang/StringUTF16", name := "length", desc := "([B)I" } : Jvm.MethodName) jdk_52_method_6_code (1 : Nat) (Option.some Jvm.ClassFile.FieldType.int)).before a0 Z = true := hw _ (List.mem_of_getElem? (i := 116) rfl)
theorem ow117 {Z a0} (hw : oW a0 Z) : (Jvm.Cond.methodLink "java/lang/StringUTF16" (414 : Nat) ({ cls := "java/lang/String", name := "checkIndex", desc := "(II)V" } : Jvm.MethodName)).before a0 Z = true := hw _ (List.mem_of_getElem? (i := 117) rfl)
theorem own_str {Z : State} {a0 : Array Value} (hw : ∀ d ∈ tables_1, d.before a0 Z = true) : ∀ a ∈ Bundle.stringAtoms, a.before a0 Z = true := fun a ha => by
  simp only [Bundle.stringAtoms, List.mem_cons, List.not_mem_nil, or_false] at ha
  rcases ha with rfl | rfl | rfl | rfl | rfl | rfl | rfl
  · exact (ow9 hw)
  · exact (ow8 hw)
  · exact (ow25 hw)
  · exact (ow26 hw)
  · exact (ow27 hw)
  · exact (ow28 hw)
  · exact (ow29 hw)
theorem own_neqI {args : Array Value} {s : State} {t : Term} {x k : Int32} (ht : t.eval args s none [] s = some (.int x)) (h : (Jvm.Cond.not (Jvm.Cond.eq t (.int k))).value args s none s [] = some true) : ¬ x = k := fun q => by
  have h1 := not_v h
  have h2 := eq_i (a := t) (b := .int k) ht (show (Term.int k).eval args s none [] s = some (.int k) from rfl) (congrArg Value.int q)
  rw [h2] at h1
  exact Bool.noConfusion (Option.some.inj h1)
def own_HS (Z : State) (cs_ : Int32) (rf_ : Value) : Prop := Sta Z Z.heap "java/lang/String" "COMPACT_STRINGS" "Z" (.int cs_) ∧ Sta Z Z.heap "jdk/internal/util/Preconditions" "SIOOBE_FORMATTER" "Ljava/util/function/BiFunction;" rf_ ∧ Sta Z Z.heap "java/lang/StringUTF16" "$assertionsDisabled" "Z" (.int (1 : Int32)) ∧ Sta Z Z.heap "java/lang/StringUTF16" "HI_BYTE_SHIFT" "I" (.int (0 : Int32)) ∧ Sta Z Z.heap "java/lang/StringUTF16" "LO_BYTE_SHIFT" "I" (.int (8 : Int32)) ∧ ¬ cs_ = (0 : Int32) ∧ rf_.isRef = true
def own_Ch (e : Int32) : Prop := ¬ e < (0 : Int32) ∧ ¬ (65535 : Int32) < e
theorem own_ch (x : Int32) : own_Ch (nar .char x) := rng_char (fits_nar_char x)
theorem own_chI {e : Int32} (h : own_Ch e) : 0 ≤ e.toInt ∧ e.toInt ≤ 65535 := by
  obtain ⟨h1, h2⟩ := h
  rw [Int32.lt_iff_toInt_lt] at h1 h2
  have e0 : (0 : Int32).toInt = 0 := by decide
  have e1 : (65535 : Int32).toInt = 65535 := by decide
  omega
theorem own_nc {e : Int32} (h : own_Ch e) : nar .char e = e := by
  have g := own_chI h
  have c := c_i2c e
  rw [← Int32.toInt_inj]
  show e.toUInt32.toUInt16.toUInt32.toInt32.toInt = e.toInt
  omega
theorem own_nb (x : Int32) : nar .byte (x.toInt8.toInt32) = x.toInt8.toInt32 := by
  have c := c_i2b x
  have d := c_i2b (x.toInt8.toInt32)
  rw [← Int32.toInt_inj]
  show (x.toInt8.toInt32).toInt8.toInt32.toInt = x.toInt8.toInt32.toInt
  omega
theorem own_lat {e : Int32} (h : own_Ch e) (g : ¬ (255 : Int32) < e) : nar .char (((e.toInt8.toInt32) &&& (255 : Int32)).toUInt32.toUInt16.toUInt32.toInt32) = e := by
  have h1 := own_chI h
  rw [Int32.lt_iff_toInt_lt] at g
  have e1 : (255 : Int32).toInt = 255 := by decide
  have a := c_i2b e
  have b := c_mask (e.toInt8.toInt32) 255 8 (by decide) (by decide)
  have d := c_i2c ((e.toInt8.toInt32) &&& (255 : Int32))
  have f := c_i2c (((e.toInt8.toInt32) &&& (255 : Int32)).toUInt32.toUInt16.toUInt32.toInt32)
  rw [← Int32.toInt_inj]
  show (((e.toInt8.toInt32) &&& (255 : Int32)).toUInt32.toUInt16.toUInt32.toInt32).toUInt32.toUInt16.toUInt32.toInt32.toInt = e.toInt
  omega
def own_gc (x y : Int32) : Int32 := nar .char ((((x &&& (255 : Int32)) <<< ((0 : Int32) &&& 31)) ||| ((y &&& (255 : Int32)) <<< ((8 : Int32) &&& 31))).toUInt32.toUInt16.toUInt32.toInt32)
theorem own_utf {e : Int32} (h : own_Ch e) : own_gc ((e >>> ((0 : Int32) &&& 31)).toInt8.toInt32) ((e >>> ((8 : Int32) &&& 31)).toInt8.toInt32) = e := by
  have h1 := own_chI h
  have a1 := c_ishr e 0 0 (by decide)
  have a2 := c_ishr e 8 8 (by decide)
  have b1 := c_i2b (e >>> ((0 : Int32) &&& 31))
  have b2 := c_i2b (e >>> ((8 : Int32) &&& 31))
  have m1 := c_mask ((e >>> ((0 : Int32) &&& 31)).toInt8.toInt32) 255 8 (by decide) (by decide)
  have m2 := c_mask ((e >>> ((8 : Int32) &&& 31)).toInt8.toInt32) 255 8 (by decide) (by decide)
  have s1 := c_ishl (((e >>> ((0 : Int32) &&& 31)).toInt8.toInt32) &&& 255) 0 0 (by decide)
  have s2 := c_ishl (((e >>> ((8 : Int32) &&& 31)).toInt8.toInt32) &&& 255) 8 8 (by decide)
  unfold own_gc
  generalize (((e >>> ((0 : Int32) &&& 31)).toInt8.toInt32) &&& 255) <<< ((0 : Int32) &&& 31) = p at *
  generalize (((e >>> ((8 : Int32) &&& 31)).toInt8.toInt32) &&& 255) <<< ((8 : Int32) &&& 31) = q at *
  have rp := rng32 p
  have rq := rng32 q
  have o := c_or' p q 8 (by decide) 256 (by decide)
  have ro := rng32 (p ||| q)
  have d := c_i2c (p ||| q)
  have f := c_i2c ((p ||| q).toUInt32.toUInt16.toUInt32.toInt32)
  rw [← Int32.toInt_inj]
  show ((p ||| q).toUInt32.toUInt16.toUInt32.toInt32).toUInt32.toUInt16.toUInt32.toInt32.toInt = e.toInt
  have o' := o (by omega) (by omega) (by omega)
  omega
def own_iso (e : Int32) : Int32 := if (159 : Int32) < e then 0 else if e < (127 : Int32) then (if ((e.toUInt32 >>> ((5 : Int32) &&& 31).toUInt32).toInt32) = 0 then 1 else 0) else 1
def own_f (e : Int32) : Int32 := if e = 59 then 0 else if (31 : Int32) < e then (if e < (127 : Int32) then 1 else if (159 : Int32) < e then 1 else 0) else 0
theorem own_sh5 {e : Int32} (h : own_Ch e) : ((e.toUInt32 >>> ((5 : Int32) &&& 31).toUInt32).toInt32) = 0 ↔ ¬ (31 : Int32) < e := by
  have h1 := own_chI h
  have a := c_iushr e 5 5 (by decide) (by decide)
  rw [← Int32.toInt_inj, a, Int32.lt_iff_toInt_lt]
  have e0 : (0 : Int32).toInt = 0 := by decide
  have e1 : (31 : Int32).toInt = 31 := by decide
  rw [e0, e1]
  omega
theorem own_lt3 {e : Int32} (h : ¬ (31 : Int32) < e) : ¬ (159 : Int32) < e ∧ e < (127 : Int32) := by
  rw [Int32.lt_iff_toInt_lt] at *
  rw [Int32.lt_iff_toInt_lt]
  have e1 : (31 : Int32).toInt = 31 := by decide
  have e2 : (159 : Int32).toInt = 159 := by decide
  have e3 : (127 : Int32).toInt = 127 := by decide
  omega
theorem own_f0 {e : Int32} (h : e = (59 : Int32)) : own_f e = 0 := by simp [own_f, h]
theorem own_f1 {e : Int32} (H : own_Ch e) (h : ¬ own_iso e = (0 : Int32)) : own_f e = 0 := by
  unfold own_iso at h
  unfold own_f
  have q := own_sh5 H
  generalize ((e.toUInt32 >>> ((5 : Int32) &&& 31).toUInt32).toInt32) = w at h q
  by_cases g : (31 : Int32) < e
  · have k := mt q.mp (fun r => r g)
    by_cases a : (159 : Int32) < e
    · simp [a] at h
    · by_cases b : e < (127 : Int32)
      · simp [a, b, k] at h
      · simp [a, b, g]
  · simp [g]
theorem own_f2 {e : Int32} (H : own_Ch e) (h59 : ¬ e = (59 : Int32)) (h : own_iso e = (0 : Int32)) : ¬ own_f e = 0 := by
  unfold own_iso at h
  unfold own_f
  have q := own_sh5 H
  generalize ((e.toUInt32 >>> ((5 : Int32) &&& 31).toUInt32).toInt32) = w at h q
  by_cases g : (31 : Int32) < e
  · by_cases a : (159 : Int32) < e
    · simp [a, g, h59]
    · by_cases b : e < (127 : Int32)
      · simp [a, b, g, h59]
      · simp [a, b] at h
  · have k := q.mpr g
    obtain ⟨a, b⟩ := own_lt3 g
    simp [a, b, k] at h
theorem own_mod5 (x : Int32) : (x &&& (2147483647 : Int32)) % (5 : Int32) = 0 ∨ (x &&& (2147483647 : Int32)) % (5 : Int32) = 1 ∨ (x &&& (2147483647 : Int32)) % (5 : Int32) = 2 ∨ (x &&& (2147483647 : Int32)) % (5 : Int32) = 3 ∨ (x &&& (2147483647 : Int32)) % (5 : Int32) = 4 := by
  have h := c_and x 2147483647 (by decide)
  have g := (c_irem (x &&& 2147483647) 5 5 (by decide)).1 h.1
  simp only [← Int32.toInt_inj, show (0 : Int32).toInt = 0 by decide, show (1 : Int32).toInt = 1 by decide, show (2 : Int32).toInt = 2 by decide, show (3 : Int32).toInt = 3 by decide, show (4 : Int32).toInt = 4 by decide]
  omega
def own_TL0 (Z : State) (h : Heap) (a b : Addr) (kb : ClassId)  : Prop := Exa Z h a "java/lang/String" ∧ Fld Z h a "java/lang/String" "coder" "B" (.int (0 : Int32)) ∧ Fld Z h a "java/lang/String" "value" "[B" (.ref b) ∧ Arv Z h b kb .byte (0 : Int32) [] (.int (0 : Int32))
def own_TU0 (Z : State) (h : Heap) (a b : Addr) (kb : ClassId)  : Prop := Exa Z h a "java/lang/String" ∧ Fld Z h a "java/lang/String" "coder" "B" (.int (1 : Int32)) ∧ Fld Z h a "java/lang/String" "value" "[B" (.ref b) ∧ Arv Z h b kb .byte (0 : Int32) [] (.int (0 : Int32))
def own_Tx0 (Z : State) (h : Heap) (a : Addr)  : Prop := (∃ (b : Addr) (kb : ClassId), own_TL0 Z h a b kb ) ∨ (∃ (b : Addr) (kb : ClassId), own_TU0 Z h a b kb )
def own_TL1 (Z : State) (h : Heap) (a b : Addr) (kb : ClassId) (ce0 : Int32) : Prop := Exa Z h a "java/lang/String" ∧ Fld Z h a "java/lang/String" "coder" "B" (.int (0 : Int32)) ∧ Fld Z h a "java/lang/String" "value" "[B" (.ref b) ∧ Arv Z h b kb .byte (1 : Int32) [(.int (ce0.toInt8.toInt32))] (.int (0 : Int32)) ∧ ¬ (255 : Int32) < ce0
def own_TU1 (Z : State) (h : Heap) (a b : Addr) (kb : ClassId) (ce0 : Int32) : Prop := Exa Z h a "java/lang/String" ∧ Fld Z h a "java/lang/String" "coder" "B" (.int (1 : Int32)) ∧ Fld Z h a "java/lang/String" "value" "[B" (.ref b) ∧ Arv Z h b kb .byte (2 : Int32) [(.int ((ce0 >>> ((0 : Int32) &&& 31)).toInt8.toInt32)), (.int ((ce0 >>> ((8 : Int32) &&& 31)).toInt8.toInt32))] (.int (0 : Int32))
def own_Tx1 (Z : State) (h : Heap) (a : Addr) (ce0 : Int32) : Prop := (∃ (b : Addr) (kb : ClassId), own_TL1 Z h a b kb ce0) ∨ (∃ (b : Addr) (kb : ClassId), own_TU1 Z h a b kb ce0)
def own_TL2 (Z : State) (h : Heap) (a b : Addr) (kb : ClassId) (ce0 : Int32) (ce1 : Int32) : Prop := Exa Z h a "java/lang/String" ∧ Fld Z h a "java/lang/String" "coder" "B" (.int (0 : Int32)) ∧ Fld Z h a "java/lang/String" "value" "[B" (.ref b) ∧ Arv Z h b kb .byte (2 : Int32) [(.int (ce0.toInt8.toInt32)), (.int (ce1.toInt8.toInt32))] (.int (0 : Int32)) ∧ ¬ (255 : Int32) < ce0 ∧ ¬ (255 : Int32) < ce1
def own_TU2 (Z : State) (h : Heap) (a b : Addr) (kb : ClassId) (ce0 : Int32) (ce1 : Int32) : Prop := Exa Z h a "java/lang/String" ∧ Fld Z h a "java/lang/String" "coder" "B" (.int (1 : Int32)) ∧ Fld Z h a "java/lang/String" "value" "[B" (.ref b) ∧ Arv Z h b kb .byte (4 : Int32) [(.int ((ce0 >>> ((0 : Int32) &&& 31)).toInt8.toInt32)), (.int ((ce0 >>> ((8 : Int32) &&& 31)).toInt8.toInt32)), (.int ((ce1 >>> ((0 : Int32) &&& 31)).toInt8.toInt32)), (.int ((ce1 >>> ((8 : Int32) &&& 31)).toInt8.toInt32))] (.int (0 : Int32))
def own_Tx2 (Z : State) (h : Heap) (a : Addr) (ce0 : Int32) (ce1 : Int32) : Prop := (∃ (b : Addr) (kb : ClassId), own_TL2 Z h a b kb ce0 ce1) ∨ (∃ (b : Addr) (kb : ClassId), own_TU2 Z h a b kb ce0 ce1)
def own_TL3 (Z : State) (h : Heap) (a b : Addr) (kb : ClassId) (ce0 : Int32) (ce1 : Int32) (ce2 : Int32) : Prop := Exa Z h a "java/lang/String" ∧ Fld Z h a "java/lang/String" "coder" "B" (.int (0 : Int32)) ∧ Fld Z h a "java/lang/String" "value" "[B" (.ref b) ∧ Arv Z h b kb .byte (3 : Int32) [(.int (ce0.toInt8.toInt32)), (.int (ce1.toInt8.toInt32)), (.int (ce2.toInt8.toInt32))] (.int (0 : Int32)) ∧ ¬ (255 : Int32) < ce0 ∧ ¬ (255 : Int32) < ce1 ∧ ¬ (255 : Int32) < ce2
def own_TU3 (Z : State) (h : Heap) (a b : Addr) (kb : ClassId) (ce0 : Int32) (ce1 : Int32) (ce2 : Int32) : Prop := Exa Z h a "java/lang/String" ∧ Fld Z h a "java/lang/String" "coder" "B" (.int (1 : Int32)) ∧ Fld Z h a "java/lang/String" "value" "[B" (.ref b) ∧ Arv Z h b kb .byte (6 : Int32) [(.int ((ce0 >>> ((0 : Int32) &&& 31)).toInt8.toInt32)), (.int ((ce0 >>> ((8 : Int32) &&& 31)).toInt8.toInt32)), (.int ((ce1 >>> ((0 : Int32) &&& 31)).toInt8.toInt32)), (.int ((ce1 >>> ((8 : Int32) &&& 31)).toInt8.toInt32)), (.int ((ce2 >>> ((0 : Int32) &&& 31)).toInt8.toInt32)), (.int ((ce2 >>> ((8 : Int32) &&& 31)).toInt8.toInt32))] (.int (0 : Int32))
def own_Tx3 (Z : State) (h : Heap) (a : Addr) (ce0 : Int32) (ce1 : Int32) (ce2 : Int32) : Prop := (∃ (b : Addr) (kb : ClassId), own_TL3 Z h a b kb ce0 ce1 ce2) ∨ (∃ (b : Addr) (kb : ClassId), own_TU3 Z h a b kb ce0 ce1 ce2)
def own_TL4 (Z : State) (h : Heap) (a b : Addr) (kb : ClassId) (ce0 : Int32) (ce1 : Int32) (ce2 : Int32) (ce3 : Int32) : Prop := Exa Z h a "java/lang/String" ∧ Fld Z h a "java/lang/String" "coder" "B" (.int (0 : Int32)) ∧ Fld Z h a "java/lang/String" "value" "[B" (.ref b) ∧ Arv Z h b kb .byte (4 : Int32) [(.int (ce0.toInt8.toInt32)), (.int (ce1.toInt8.toInt32)), (.int (ce2.toInt8.toInt32)), (.int (ce3.toInt8.toInt32))] (.int (0 : Int32)) ∧ ¬ (255 : Int32) < ce0 ∧ ¬ (255 : Int32) < ce1 ∧ ¬ (255 : Int32) < ce2 ∧ ¬ (255 : Int32) < ce3
def own_TU4 (Z : State) (h : Heap) (a b : Addr) (kb : ClassId) (ce0 : Int32) (ce1 : Int32) (ce2 : Int32) (ce3 : Int32) : Prop := Exa Z h a "java/lang/String" ∧ Fld Z h a "java/lang/String" "coder" "B" (.int (1 : Int32)) ∧ Fld Z h a "java/lang/String" "value" "[B" (.ref b) ∧ Arv Z h b kb .byte (8 : Int32) [(.int ((ce0 >>> ((0 : Int32) &&& 31)).toInt8.toInt32)), (.int ((ce0 >>> ((8 : Int32) &&& 31)).toInt8.toInt32)), (.int ((ce1 >>> ((0 : Int32) &&& 31)).toInt8.toInt32)), (.int ((ce1 >>> ((8 : Int32) &&& 31)).toInt8.toInt32)), (.int ((ce2 >>> ((0 : Int32) &&& 31)).toInt8.toInt32)), (.int ((ce2 >>> ((8 : Int32) &&& 31)).toInt8.toInt32)), (.int ((ce3 >>> ((0 : Int32) &&& 31)).toInt8.toInt32)), (.int ((ce3 >>> ((8 : Int32) &&& 31)).toInt8.toInt32))] (.int (0 : Int32))
def own_Tx4 (Z : State) (h : Heap) (a : Addr) (ce0 : Int32) (ce1 : Int32) (ce2 : Int32) (ce3 : Int32) : Prop := (∃ (b : Addr) (kb : ClassId), own_TL4 Z h a b kb ce0 ce1 ce2 ce3) ∨ (∃ (b : Addr) (kb : ClassId), own_TU4 Z h a b kb ce0 ce1 ce2 ce3)
def own_all0  : Int32 :=  1
def own_all1 (ce0 : Int32) : Int32 := if own_f ce0 = 0 then 0 else 1
def own_all2 (ce0 : Int32) (ce1 : Int32) : Int32 := if own_f ce0 = 0 then 0 else if own_f ce1 = 0 then 0 else 1
def own_all3 (ce0 : Int32) (ce1 : Int32) (ce2 : Int32) : Int32 := if own_f ce0 = 0 then 0 else if own_f ce1 = 0 then 0 else if own_f ce2 = 0 then 0 else 1
def own_all4 (ce0 : Int32) (ce1 : Int32) (ce2 : Int32) (ce3 : Int32) : Int32 := if own_f ce0 = 0 then 0 else if own_f ce1 = 0 then 0 else if own_f ce2 = 0 then 0 else if own_f ce3 = 0 then 0 else 1
theorem d1_0 : decode method_3_code 0 = .ok (.iload_n 0, 1) := by decide +kernel
theorem d1_1 : decode method_3_code 1 = .ok (.ldc 33, 2) := by decide +kernel
theorem d1_3 : decode method_3_code 3 = .ok (.iand, 1) := by decide +kernel
theorem d1_4 : decode method_3_code 4 = .ok (.ifCond .eq 10, 3) := by decide +kernel
theorem d1_7 : decode method_3_code 7 = .ok (.iload_n 0, 1) := by decide +kernel
theorem d1_8 : decode method_3_code 8 = .ok (.sipush 255, 3) := by decide +kernel
theorem d1_11 : decode method_3_code 11 = .ok (.iand, 1) := by decide +kernel
theorem d1_12 : decode method_3_code 12 = .ok (.i2c, 1) := by decide +kernel
theorem d1_13 : decode method_3_code 13 = .ok (.ireturn, 1) := by decide +kernel
theorem d1_14 : decode method_3_code 14 = .ok (.iload_n 0, 1) := by decide +kernel
theorem d1_15 : decode method_3_code 15 = .ok (.ldc 34, 2) := by decide +kernel
theorem d1_17 : decode method_3_code 17 = .ok (.iand, 1) := by decide +kernel
theorem d1_18 : decode method_3_code 18 = .ok (.i2c, 1) := by decide +kernel
theorem d1_19 : decode method_3_code 19 = .ok (.ireturn, 1) := by decide +kernel
theorem pn_1 : plainName "com/example/quittance/quittance/apply/CashApplicationFitsDescriptionPinLaw" = true := by first | (simp [plainName, overriddenIn]; done) | decide +kernel
theorem ef_rmD (m : MethodId) (z : Int32) : entryFrame m #[(.int z)] 1 = mkF m 0 #[.val (.int z)] [] := by first | (simp [entryFrame, mkF, argsToLocals, Value.category]; done) | rfl | (rcases ref_cases hrf with rfl | ⟨q, rfl⟩ <;> rfl)
def Q_rmD (Z : State) (z : Int32)  (h0 : Heap) (n0 : Nat) (v : Option Value) (h : Heap) (L : List Loc) : Prop := ∃ e : Int32, v = some (.int e) ∧ own_Ch e ∧ Fr n0 L ∧ h = h0
theorem rmD (l : Launch) (Z : State) (a0 : Array Value) (hw : ∀ d ∈ tables_1, d.before a0 Z = true) (ws : List Jvm.Cond) (z : Int32)  (h0 : Heap) (n0 : Nat) (O0 : Old Z n0 h0) :
    MetFree l oM0 (head1 (Jvm.Cond.code oM0 method_3_code 1 (some .char) :: ws) ({ frames := 0, cells := 0, slots := 0, locals := 0 } : Room)) (fun aq_ U => aq_ = #[(.int z)] ∧ Z.Warmed39 U.vm ∧ U.heap = h0) (fun _ _ _ _ _ => True) (fun _ U o U' => ∃ v L, o = .returned v ∧ Q_rmD Z z h0 n0 v U'.heap L ∧ FrameEnd U o U' L 0 0) := by
  refine MetFree.of_bodySF (plainFor_of_name pn_1) hisR ?_
  intro p e s m args below meth c s₁ Bd hml0 hP hK
  obtain ⟨rfl, hZ, hh⟩ := hP
  have hx := Bd.exec
  have hby := Bd.bytes
  have hml : c.maxLocals = 1 := hml0
  have hown : s.vm.findClass "com/example/quittance/quittance/apply/CashApplicationFitsDescriptionPinLaw" = some m.cls := findClass_of_methodNamed Bd.named
  have hnm := (name_of_methodNamed Bd.named Bd.method).1
  have X0 : Stand p l e ({ frames := 0, cells := 0, slots := 0, locals := 0 } : Room) s m #[(.int z)] below meth c s₁ [] 0 0 := Stand.of_body Bd
  have e0 : s₁.heap = h0 := by rw [← hh, Bd.state]; rfl
  have N0 := Fr.nil n0
  show oE p.tables e below (own_P s (Q_rmD Z z h0 n0) 0 0) _
  refine own_cast (ef_rmD m z) ?_
  show oE _ _ _ _ (s₁.setTop (mkF m 0 #[.val (.int z)] []))
  refine oT (fun _ u => XS.iloadN X0.here hx rfl (hb hby d1_0) rfl u) ?_
  refine oT (X0.ldcInt hx hown (mvT hZ (ow5 hw)) (g := (mkF m 1 #[.val (.int z)] [(.int z)])) rfl (hb hby d1_1)) ?_
  show oE _ _ _ _ (s₁.setTop (mkF m 3 #[.val (.int z)] [(.int 65536), (.int z)]))
  refine oT (fun _ u => XS.iand X0.here hx rfl (hb hby d1_3) rfl u) ?_
  by_cases hc4_1 : (z &&& (65536 : Int32)) = (0 : Int32)
  · -- pc 4: (z &&& (65536 : Int32)) = (0 : Int32)
    refine oT (fun _ u => XS.ifYes X0.here hx rfl (pc0 := 4) (pc' := 14) rfl (hb hby d1_4) rfl ((if0 _ _).trans (teq hc4_1).1) (by decide) (by decide) u) ?_
    show oE _ _ _ _ (s₁.setTop (mkF m 14 #[.val (.int z)] []))
    refine oT (fun _ u => XS.iloadN X0.here hx rfl (hb hby d1_14) rfl u) ?_
    refine oT (X0.ldcInt hx hown (mvT hZ (ow6 hw)) (g := (mkF m 15 #[.val (.int z)] [(.int z)])) rfl (hb hby d1_15)) ?_
    show oE _ _ _ _ (s₁.setTop (mkF m 17 #[.val (.int z)] [(.int 65535), (.int z)]))
    refine oT (fun _ u => XS.iand X0.here hx rfl (hb hby d1_17) rfl u) ?_
    refine oT (fun _ u => XS.i2c X0.here hx rfl (hb hby d1_18) rfl u) ?_
    refine own_leave X0 (v := some (.int (nar .char ((z &&& (65535 : Int32)).toUInt32.toUInt16.toUInt32.toInt32)))) (fun h => by rw [Bd.returns] at h; cases h) ?_ (by decide) (by decide) (fun fs hr => retN X0 hx (t := .char) Bd.returns (by simp) (hb hby d1_19) hr)
    show Q_rmD Z z h0 n0 _ s₁.heap _
    rw [e0]
    exact ⟨_, rfl, own_ch _, N0, rfl⟩
  · -- pc 4: not (z &&& (65536 : Int32)) = (0 : Int32)
    refine oT (fun _ u => XS.ifNo X0.here hx rfl (hb hby d1_4) rfl ((if0 _ _).trans (feq hc4_1).1) u) ?_
    show oE _ _ _ _ (s₁.setTop (mkF m 7 #[.val (.int z)] []))
    refine oT (fun _ u => XS.iloadN X0.here hx rfl (hb hby d1_7) rfl u) ?_
    refine oT (fun _ u => XS.sipush X0.here hx rfl (hb hby d1_8) u) ?_
    refine oT (fun _ u => XS.iand X0.here hx rfl (hb hby d1_11) rfl u) ?_
    refine oT (fun _ u => XS.i2c X0.here hx rfl (hb hby d1_12) rfl u) ?_
    refine own_leave X0 (v := some (.int (nar .char ((z &&& (255 : Int32)).toUInt32.toUInt16.toUInt32.toInt32)))) (fun h => by rw [Bd.returns] at h; cases h) ?_ (by decide) (by decide) (fun fs hr => retN X0 hx (t := .char) Bd.returns (by simp) (hb hby d1_13) hr)
    show Q_rmD Z z h0 n0 _ s₁.heap _
    rw [e0]
    exact ⟨_, rfl, own_ch _, N0, rfl⟩
theorem d2_0 : decode method_5_code 0 = .ok (.iload_n 0, 1) := by decide +kernel
theorem d2_1 : decode method_5_code 1 = .ok (.ifCond .ne 7, 3) := by decide +kernel
theorem d2_4 : decode method_5_code 4 = .ok (.iconst 0, 1) := by decide +kernel
theorem d2_5 : decode method_5_code 5 = .ok (.newarray .char, 2) := by decide +kernel
theorem d2_7 : decode method_5_code 7 = .ok (.areturn, 1) := by decide +kernel
theorem pn_2 : plainName "com/example/quittance/quittance/apply/CashApplicationFitsDescriptionPinLaw" = true := by first | (simp [plainName, overriddenIn]; done) | decide +kernel
theorem ef_rmC0 (m : MethodId) (ce0 : Int32) (ce1 : Int32) (ce2 : Int32) (ce3 : Int32)  : entryFrame m #[(.int (0 : Int32)), (.int ce0), (.int ce1), (.int ce2), (.int ce3)] 5 = mkF m 0 #[.val (.int (0 : Int32)), .val (.int ce0), .val (.int ce1), .val (.int ce2), .val (.int ce3)] [] := by first | (simp [entryFrame, mkF, argsToLocals, Value.category]; done) | rfl | (rcases ref_cases hrf with rfl | ⟨q, rfl⟩ <;> rfl)
def Q_rmC0 (Z : State) (ce0 : Int32) (ce1 : Int32) (ce2 : Int32) (ce3 : Int32)  (h0 : Heap) (n0 : Nat) (v : Option Value) (h : Heap) (L : List Loc) : Prop := ∃ (b : Addr) (kb : ClassId), v = some (.ref b) ∧ n0 ≤ b ∧ h0.size ≤ b ∧ Fr n0 L ∧ Old Z n0 h ∧ Keep h0 h [] ∧ Arv Z h b kb .char (0 : Int32) [] (.int (0 : Int32))
theorem rmC0 (l : Launch) (Z : State) (a0 : Array Value) (hw : ∀ d ∈ tables_1, d.before a0 Z = true) (ws : List Jvm.Cond) (ce0 : Int32) (ce1 : Int32) (ce2 : Int32) (ce3 : Int32)  (h0 : Heap) (n0 : Nat) (O0 : Old Z n0 h0) (HE0 : own_Ch ce0) (HE1 : own_Ch ce1) (HE2 : own_Ch ce2) (HE3 : own_Ch ce3) :
    MetFree l oM1 (head1 (Jvm.Cond.code oM1 method_5_code 5 (some (.array .char)) :: ws) ({ frames := 0, cells := 1, slots := 0, locals := 0 } : Room)) (fun aq_ U => aq_ = #[(.int (0 : Int32)), (.int ce0), (.int ce1), (.int ce2), (.int ce3)] ∧ Z.Warmed39 U.vm ∧ U.heap = h0) (fun _ _ _ _ _ => True) (fun _ U o U' => ∃ v L, o = .returned v ∧ Q_rmC0 Z ce0 ce1 ce2 ce3 h0 n0 v U'.heap L ∧ FrameEnd U o U' L 1 0) := by
  refine MetFree.of_bodySF (plainFor_of_name pn_2) hisR ?_
  intro p e s m args below meth c s₁ Bd hml0 hP hK
  obtain ⟨rfl, hZ, hh⟩ := hP
  have hx := Bd.exec
  have hby := Bd.bytes
  have hml : c.maxLocals = 5 := hml0
  have hown : s.vm.findClass "com/example/quittance/quittance/apply/CashApplicationFitsDescriptionPinLaw" = some m.cls := findClass_of_methodNamed Bd.named
  have hnm := (name_of_methodNamed Bd.named Bd.method).1
  have X0 : Stand p l e ({ frames := 0, cells := 1, slots := 0, locals := 0 } : Room) s m #[(.int (0 : Int32)), (.int ce0), (.int ce1), (.int ce2), (.int ce3)] below meth c s₁ [] 0 0 := Stand.of_body Bd
  have e0 : s₁.heap = h0 := by rw [← hh, Bd.state]; rfl
  have N0 := Fr.nil n0
  show oE p.tables e below (own_P s (Q_rmC0 Z ce0 ce1 ce2 ce3 h0 n0) 1 0) _
  refine own_cast (ef_rmC0 m ce0 ce1 ce2 ce3) ?_
  have K0 := Keep.refl h0 []
  show oE _ _ _ _ (s₁.setTop (mkF m 0 #[.val (.int 0), .val (.int ce0), .val (.int ce1), .val (.int ce2), .val (.int ce3)] []))
  refine oT (fun _ u => XS.iloadN X0.here hx rfl (hb hby d2_0) rfl u) ?_
  refine oT (fun _ u => XS.ifNo X0.here hx rfl (hb hby d2_1) rfl ((if0 _ _).trans (teq (by decide)).2) u) ?_
  show oE _ _ _ _ (s₁.setTop (mkF m 4 #[.val (.int 0), .val (.int ce0), .val (.int ce1), .val (.int ce2), .val (.int ce3)] []))
  refine oT (fun _ u => XS.iconst X0.here hx rfl (hb hby d2_4) u) ?_
  obtain ⟨T1, h1, k1, X1, e1, E1, A1, st1⟩ := newP X0 hx hZ (aty := .char) (ow13 hw) e0 (g := (mkF m 5 #[.val (.int 0), .val (.int ce0), .val (.int ce1), .val (.int ce2), .val (.int ce3)] [(.int 0)])) rfl (hb hby d2_5) rfl (by decide) (cap := 0) (by decide) (by decide) (by decide) (by decide)
  obtain ⟨b1, g1⟩ : ∃ z, z = h0.size := ⟨_, rfl⟩
  rw [← g1] at A1 st1
  have g_b1 : n0 ≤ b1 := Nat.le_trans (own_old_le O0) (Nat.le_of_eq g1.symm)
  have sz_b1 : h0.size ≤ b1 := Nat.le_trans K0.1 (Nat.le_of_eq g1.symm)
  refine oT st1 ?_
  have O1 := O0.ext E1
  have K1 := K0.ext E1
  have Vn1 : Arv Z h1 b1 k1 .char (0 : Int32) [] (.int (0 : Int32)) := (Arv.new A1 (by decide)).pad (pad_rep [] (.int (0 : Int32)) 0)
  show oE _ _ _ _ (T1.setTop (mkF m 7 #[.val (.int 0), .val (.int ce0), .val (.int ce1), .val (.int ce2), .val (.int ce3)] [(.ref b1)]))
  refine own_leave X1 (v := some (.ref b1)) (fun h => by rw [Bd.returns] at h; cases h) ?_ (by decide) (by decide) (fun fs hr => retOut X1 hx Bd.returns rfl (Or.inr (Or.inr (Or.inr (Or.inr ⟨rfl, rfl, rfl⟩)))) (hb hby d2_7) hr)
  show Q_rmC0 Z ce0 ce1 ce2 ce3 h0 n0 _ T1.heap _
  rw [e1]
  exact ⟨b1, k1, rfl, g_b1, sz_b1, N0, O1, K1, Vn1⟩
theorem d2_8 : decode method_5_code 8 = .ok (.iload_n 0, 1) := by decide +kernel
theorem d2_9 : decode method_5_code 9 = .ok (.iconst 1, 1) := by decide +kernel
theorem d2_10 : decode method_5_code 10 = .ok (.if_icmp .ne 11, 3) := by decide +kernel
theorem d2_13 : decode method_5_code 13 = .ok (.iconst 1, 1) := by decide +kernel
theorem d2_14 : decode method_5_code 14 = .ok (.newarray .char, 2) := by decide +kernel
theorem d2_16 : decode method_5_code 16 = .ok (.dup, 1) := by decide +kernel
theorem d2_17 : decode method_5_code 17 = .ok (.iconst 0, 1) := by decide +kernel
theorem d2_18 : decode method_5_code 18 = .ok (.iload_n 1, 1) := by decide +kernel
theorem d2_19 : decode method_5_code 19 = .ok (.castore, 1) := by decide +kernel
theorem d2_20 : decode method_5_code 20 = .ok (.areturn, 1) := by decide +kernel
theorem ef_rmC1 (m : MethodId) (ce0 : Int32) (ce1 : Int32) (ce2 : Int32) (ce3 : Int32)  : entryFrame m #[(.int (1 : Int32)), (.int ce0), (.int ce1), (.int ce2), (.int ce3)] 5 = mkF m 0 #[.val (.int (1 : Int32)), .val (.int ce0), .val (.int ce1), .val (.int ce2), .val (.int ce3)] [] := by first | (simp [entryFrame, mkF, argsToLocals, Value.category]; done) | rfl | (rcases ref_cases hrf with rfl | ⟨q, rfl⟩ <;> rfl)
def Q_rmC1 (Z : State) (ce0 : Int32) (ce1 : Int32) (ce2 : Int32) (ce3 : Int32)  (h0 : Heap) (n0 : Nat) (v : Option Value) (h : Heap) (L : List Loc) : Prop := ∃ (b : Addr) (kb : ClassId), v = some (.ref b) ∧ n0 ≤ b ∧ h0.size ≤ b ∧ Fr n0 L ∧ Old Z n0 h ∧ Keep h0 h [] ∧ Arv Z h b kb .char (1 : Int32) [(.int ce0)] (.int (0 : Int32))
theorem rmC1 (l : Launch) (Z : State) (a0 : Array Value) (hw : ∀ d ∈ tables_1, d.before a0 Z = true) (ws : List Jvm.Cond) (ce0 : Int32) (ce1 : Int32) (ce2 : Int32) (ce3 : Int32)  (h0 : Heap) (n0 : Nat) (O0 : Old Z n0 h0) (HE0 : own_Ch ce0) (HE1 : own_Ch ce1) (HE2 : own_Ch ce2) (HE3 : own_Ch ce3) :
    MetFree l oM1 (head1 (Jvm.Cond.code oM1 method_5_code 5 (some (.array .char)) :: ws) ({ frames := 0, cells := 1, slots := 1, locals := 0 } : Room)) (fun aq_ U => aq_ = #[(.int (1 : Int32)), (.int ce0), (.int ce1), (.int ce2), (.int ce3)] ∧ Z.Warmed39 U.vm ∧ U.heap = h0) (fun _ _ _ _ _ => True) (fun _ U o U' => ∃ v L, o = .returned v ∧ Q_rmC1 Z ce0 ce1 ce2 ce3 h0 n0 v U'.heap L ∧ FrameEnd U o U' L 1 1) := by
  refine MetFree.of_bodySF (plainFor_of_name pn_2) hisR ?_
  intro p e s m args below meth c s₁ Bd hml0 hP hK
  obtain ⟨rfl, hZ, hh⟩ := hP
  have hx := Bd.exec
  have hby := Bd.bytes
  have hml : c.maxLocals = 5 := hml0
  have hown : s.vm.findClass "com/example/quittance/quittance/apply/CashApplicationFitsDescriptionPinLaw" = some m.cls := findClass_of_methodNamed Bd.named
  have hnm := (name_of_methodNamed Bd.named Bd.method).1
  have X0 : Stand p l e ({ frames := 0, cells := 1, slots := 1, locals := 0 } : Room) s m #[(.int (1 : Int32)), (.int ce0), (.int ce1), (.int ce2), (.int ce3)] below meth c s₁ [] 0 0 := Stand.of_body Bd
  have e0 : s₁.heap = h0 := by rw [← hh, Bd.state]; rfl
  have N0 := Fr.nil n0
  show oE p.tables e below (own_P s (Q_rmC1 Z ce0 ce1 ce2 ce3 h0 n0) 1 1) _
  refine own_cast (ef_rmC1 m ce0 ce1 ce2 ce3) ?_
  have K0 := Keep.refl h0 []
  show oE _ _ _ _ (s₁.setTop (mkF m 0 #[.val (.int 1), .val (.int ce0), .val (.int ce1), .val (.int ce2), .val (.int ce3)] []))
  refine oT (fun _ u => XS.iloadN X0.here hx rfl (hb hby d2_0) rfl u) ?_
  refine oT (fun _ u => XS.ifYes X0.here hx rfl (pc0 := 1) (pc' := 8) rfl (hb hby d2_1) rfl ((if0 _ _).trans (feq (by decide)).2) (by decide) (by decide) u) ?_
  show oE _ _ _ _ (s₁.setTop (mkF m 8 #[.val (.int 1), .val (.int ce0), .val (.int ce1), .val (.int ce2), .val (.int ce3)] []))
  refine oT (fun _ u => XS.iloadN X0.here hx rfl (hb hby d2_8) rfl u) ?_
  refine oT (fun _ u => XS.iconst X0.here hx rfl (hb hby d2_9) u) ?_
  refine oT (fun _ u => XS.icmpNo X0.here hx rfl (hb hby d2_10) rfl (teq (by decide)).2 u) ?_
  show oE _ _ _ _ (s₁.setTop (mkF m 13 #[.val (.int 1), .val (.int ce0), .val (.int ce1), .val (.int ce2), .val (.int ce3)] []))
  refine oT (fun _ u => XS.iconst X0.here hx rfl (hb hby d2_13) u) ?_
  obtain ⟨T1, h1, k1, X1, e1, E1, A1, st1⟩ := newP X0 hx hZ (aty := .char) (ow13 hw) e0 (g := (mkF m 14 #[.val (.int 1), .val (.int ce0), .val (.int ce1), .val (.int ce2), .val (.int ce3)] [(.int 1)])) rfl (hb hby d2_14) rfl (by decide) (cap := 1) (by decide) (by decide) (by decide) (by decide)
  obtain ⟨b1, g1⟩ : ∃ z, z = h0.size := ⟨_, rfl⟩
  rw [← g1] at A1 st1
  have g_b1 : n0 ≤ b1 := Nat.le_trans (own_old_le O0) (Nat.le_of_eq g1.symm)
  have sz_b1 : h0.size ≤ b1 := Nat.le_trans K0.1 (Nat.le_of_eq g1.symm)
  refine oT st1 ?_
  have O1 := O0.ext E1
  have K1 := K0.ext E1
  have Vn1 : Arv Z h1 b1 k1 .char (1 : Int32) [(.int (0 : Int32))] (.int (0 : Int32)) := (Arv.new A1 (by decide)).pad (pad_rep [] (.int (0 : Int32)) 1)
  show oE _ _ _ _ (T1.setTop (mkF m 16 #[.val (.int 1), .val (.int ce0), .val (.int ce1), .val (.int ce2), .val (.int ce3)] [(.ref b1)]))
  refine oT (fun _ u => XS.dup X1.here hx rfl (hb hby d2_16) rfl rfl u) ?_
  refine oT (fun _ u => XS.iconst X1.here hx rfl (hb hby d2_17) u) ?_
  refine oT (fun _ u => XS.iloadN X1.here hx rfl (hb hby d2_18) rfl u) ?_
  obtain ⟨cl2, Ar2, q2, S2, M2, H2, G2⟩ := id Vn1
  have hin2 : ¬ ((0 : Int32) < 0 ∨ cl2.slots.size ≤ ((0 : Int32)).toNatClampNeg) := inb_of S2 ⟨by decide, by decide⟩
  obtain ⟨T2, h2, X2, e2, W2, st2⟩ := stC X1 hx hZ e1 Ar2 (j := (0 : Int32)) hin2 (g := (mkF m 19 #[.val (.int 1), .val (.int ce0), .val (.int ce1), .val (.int ce2), .val (.int ce3)] [(.int ce0), (.int 0), (.ref b1), (.ref b1)])) rfl rfl (hb hby d2_19)
  have Vs2 : Arv Z h2 b1 k1 .char (1 : Int32) [(.int (nar .char ce0))] (.int (0 : Int32)) := Arv.set Ar2 q2 S2 M2 H2 G2 (fits_nar_char _) W2 0 rfl (own_lt rfl)
  rw [show (nar .char ce0) = ce0 from (own_nc HE0)] at Vs2
  refine oT st2 ?_
  have O2 := O1.wr W2 g_b1
  have N2 := Fr.snoc X2 N0 g_b1
  have K2 := K1.wr W2 (Or.inr sz_b1)
  show oE _ _ _ _ (T2.setTop (mkF m 20 #[.val (.int 1), .val (.int ce0), .val (.int ce1), .val (.int ce2), .val (.int ce3)] [(.ref b1)]))
  refine own_leave X2 (v := some (.ref b1)) (fun h => by rw [Bd.returns] at h; cases h) ?_ (by decide) (by decide) (fun fs hr => retOut X2 hx Bd.returns rfl (Or.inr (Or.inr (Or.inr (Or.inr ⟨rfl, rfl, rfl⟩)))) (hb hby d2_20) hr)
  show Q_rmC1 Z ce0 ce1 ce2 ce3 h0 n0 _ T2.heap _
  rw [e2]
  exact ⟨b1, k1, rfl, g_b1, sz_b1, N2, O2, K2, Vs2⟩
theorem d2_21 : decode method_5_code 21 = .ok (.iload_n 0, 1) := by decide +kernel
theorem d2_22 : decode method_5_code 22 = .ok (.iconst 2, 1) := by decide +kernel
theorem d2_23 : decode method_5_code 23 = .ok (.if_icmp .ne 15, 3) := by decide +kernel
theorem d2_26 : decode method_5_code 26 = .ok (.iconst 2, 1) := by decide +kernel
theorem d2_27 : decode method_5_code 27 = .ok (.newarray .char, 2) := by decide +kernel
theorem d2_29 : decode method_5_code 29 = .ok (.dup, 1) := by decide +kernel
theorem d2_30 : decode method_5_code 30 = .ok (.iconst 0, 1) := by decide +kernel
theorem d2_31 : decode method_5_code 31 = .ok (.iload_n 1, 1) := by decide +kernel
theorem d2_32 : decode method_5_code 32 = .ok (.castore, 1) := by decide +kernel
theorem d2_33 : decode method_5_code 33 = .ok (.dup, 1) := by decide +kernel
theorem d2_34 : decode method_5_code 34 = .ok (.iconst 1, 1) := by decide +kernel
theorem d2_35 : decode method_5_code 35 = .ok (.iload_n 2, 1) := by decide +kernel
theorem d2_36 : decode method_5_code 36 = .ok (.castore, 1) := by decide +kernel
theorem d2_37 : decode method_5_code 37 = .ok (.areturn, 1) := by decide +kernel
theorem ef_rmC2 (m : MethodId) (ce0 : Int32) (ce1 : Int32) (ce2 : Int32) (ce3 : Int32)  : entryFrame m #[(.int (2 : Int32)), (.int ce0), (.int ce1), (.int ce2), (.int ce3)] 5 = mkF m 0 #[.val (.int (2 : Int32)), .val (.int ce0), .val (.int ce1), .val (.int ce2), .val (.int ce3)] [] := by first | (simp [entryFrame, mkF, argsToLocals, Value.category]; done) | rfl | (rcases ref_cases hrf with rfl | ⟨q, rfl⟩ <;> rfl)
def Q_rmC2 (Z : State) (ce0 : Int32) (ce1 : Int32) (ce2 : Int32) (ce3 : Int32)  (h0 : Heap) (n0 : Nat) (v : Option Value) (h : Heap) (L : List Loc) : Prop := ∃ (b : Addr) (kb : ClassId), v = some (.ref b) ∧ n0 ≤ b ∧ h0.size ≤ b ∧ Fr n0 L ∧ Old Z n0 h ∧ Keep h0 h [] ∧ Arv Z h b kb .char (2 : Int32) [(.int ce0), (.int ce1)] (.int (0 : Int32))
theorem rmC2 (l : Launch) (Z : State) (a0 : Array Value) (hw : ∀ d ∈ tables_1, d.before a0 Z = true) (ws : List Jvm.Cond) (ce0 : Int32) (ce1 : Int32) (ce2 : Int32) (ce3 : Int32)  (h0 : Heap) (n0 : Nat) (O0 : Old Z n0 h0) (HE0 : own_Ch ce0) (HE1 : own_Ch ce1) (HE2 : own_Ch ce2) (HE3 : own_Ch ce3) :
    MetFree l oM1 (head1 (Jvm.Cond.code oM1 method_5_code 5 (some (.array .char)) :: ws) ({ frames := 0, cells := 1, slots := 2, locals := 0 } : Room)) (fun aq_ U => aq_ = #[(.int (2 : Int32)), (.int ce0), (.int ce1), (.int ce2), (.int ce3)] ∧ Z.Warmed39 U.vm ∧ U.heap = h0) (fun _ _ _ _ _ => True) (fun _ U o U' => ∃ v L, o = .returned v ∧ Q_rmC2 Z ce0 ce1 ce2 ce3 h0 n0 v U'.heap L ∧ FrameEnd U o U' L 1 2) := by
  refine MetFree.of_bodySF (plainFor_of_name pn_2) hisR ?_
  intro p e s m args below meth c s₁ Bd hml0 hP hK
  obtain ⟨rfl, hZ, hh⟩ := hP
  have hx := Bd.exec
  have hby := Bd.bytes
  have hml : c.maxLocals = 5 := hml0
  have hown : s.vm.findClass "com/example/quittance/quittance/apply/CashApplicationFitsDescriptionPinLaw" = some m.cls := findClass_of_methodNamed Bd.named
  have hnm := (name_of_methodNamed Bd.named Bd.method).1
  have X0 : Stand p l e ({ frames := 0, cells := 1, slots := 2, locals := 0 } : Room) s m #[(.int (2 : Int32)), (.int ce0), (.int ce1), (.int ce2), (.int ce3)] below meth c s₁ [] 0 0 := Stand.of_body Bd
  have e0 : s₁.heap = h0 := by rw [← hh, Bd.state]; rfl
  have N0 := Fr.nil n0
  show oE p.tables e below (own_P s (Q_rmC2 Z ce0 ce1 ce2 ce3 h0 n0) 1 2) _
  refine own_cast (ef_rmC2 m ce0 ce1 ce2 ce3) ?_
  have K0 := Keep.refl h0 []
  show oE _ _ _ _ (s₁.setTop (mkF m 0 #[.val (.int 2), .val (.int ce0), .val (.int ce1), .val (.int ce2), .val (.int ce3)] []))
  refine oT (fun _ u => XS.iloadN X0.here hx rfl (hb hby d2_0) rfl u) ?_
  refine oT (fun _ u => XS.ifYes X0.here hx rfl (pc0 := 1) (pc' := 8) rfl (hb hby d2_1) rfl ((if0 _ _).trans (feq (by decide)).2) (by decide) (by decide) u) ?_
  show oE _ _ _ _ (s₁.setTop (mkF m 8 #[.val (.int 2), .val (.int ce0), .val (.int ce1), .val (.int ce2), .val (.int ce3)] []))
  refine oT (fun _ u => XS.iloadN X0.here hx rfl (hb hby d2_8) rfl u) ?_
  refine oT (fun _ u => XS.iconst X0.here hx rfl (hb hby d2_9) u) ?_
  refine oT (fun _ u => XS.icmpYes X0.here hx rfl (pc0 := 10) (pc' := 21) rfl (hb hby d2_10) rfl (feq (by decide)).2 (by decide) (by decide) u) ?_
  show oE _ _ _ _ (s₁.setTop (mkF m 21 #[.val (.int 2), .val (.int ce0), .val (.int ce1), .val (.int ce2), .val (.int ce3)] []))
  refine oT (fun _ u => XS.iloadN X0.here hx rfl (hb hby d2_21) rfl u) ?_
  refine oT (fun _ u => XS.iconst X0.here hx rfl (hb hby d2_22) u) ?_
  refine oT (fun _ u => XS.icmpNo X0.here hx rfl (hb hby d2_23) rfl (teq (by decide)).2 u) ?_
  show oE _ _ _ _ (s₁.setTop (mkF m 26 #[.val (.int 2), .val (.int ce0), .val (.int ce1), .val (.int ce2), .val (.int ce3)] []))
  refine oT (fun _ u => XS.iconst X0.here hx rfl (hb hby d2_26) u) ?_
  obtain ⟨T1, h1, k1, X1, e1, E1, A1, st1⟩ := newP X0 hx hZ (aty := .char) (ow13 hw) e0 (g := (mkF m 27 #[.val (.int 2), .val (.int ce0), .val (.int ce1), .val (.int ce2), .val (.int ce3)] [(.int 2)])) rfl (hb hby d2_27) rfl (by decide) (cap := 2) (by decide) (by decide) (by decide) (by decide)
  obtain ⟨b1, g1⟩ : ∃ z, z = h0.size := ⟨_, rfl⟩
  rw [← g1] at A1 st1
  have g_b1 : n0 ≤ b1 := Nat.le_trans (own_old_le O0) (Nat.le_of_eq g1.symm)
  have sz_b1 : h0.size ≤ b1 := Nat.le_trans K0.1 (Nat.le_of_eq g1.symm)
  refine oT st1 ?_
  have O1 := O0.ext E1
  have K1 := K0.ext E1
  have Vn1 : Arv Z h1 b1 k1 .char (2 : Int32) [(.int (0 : Int32)), (.int (0 : Int32))] (.int (0 : Int32)) := (Arv.new A1 (by decide)).pad (pad_rep [] (.int (0 : Int32)) 2)
  show oE _ _ _ _ (T1.setTop (mkF m 29 #[.val (.int 2), .val (.int ce0), .val (.int ce1), .val (.int ce2), .val (.int ce3)] [(.ref b1)]))
  refine oT (fun _ u => XS.dup X1.here hx rfl (hb hby d2_29) rfl rfl u) ?_
  refine oT (fun _ u => XS.iconst X1.here hx rfl (hb hby d2_30) u) ?_
  refine oT (fun _ u => XS.iloadN X1.here hx rfl (hb hby d2_31) rfl u) ?_
  obtain ⟨cl2, Ar2, q2, S2, M2, H2, G2⟩ := id Vn1
  have hin2 : ¬ ((0 : Int32) < 0 ∨ cl2.slots.size ≤ ((0 : Int32)).toNatClampNeg) := inb_of S2 ⟨by decide, by decide⟩
  obtain ⟨T2, h2, X2, e2, W2, st2⟩ := stC X1 hx hZ e1 Ar2 (j := (0 : Int32)) hin2 (g := (mkF m 32 #[.val (.int 2), .val (.int ce0), .val (.int ce1), .val (.int ce2), .val (.int ce3)] [(.int ce0), (.int 0), (.ref b1), (.ref b1)])) rfl rfl (hb hby d2_32)
  have Vs2 : Arv Z h2 b1 k1 .char (2 : Int32) [(.int (nar .char ce0)), (.int (0 : Int32))] (.int (0 : Int32)) := Arv.set Ar2 q2 S2 M2 H2 G2 (fits_nar_char _) W2 0 rfl (own_lt rfl)
  rw [show (nar .char ce0) = ce0 from (own_nc HE0)] at Vs2
  refine oT st2 ?_
  have O2 := O1.wr W2 g_b1
  have N2 := Fr.snoc X2 N0 g_b1
  have K2 := K1.wr W2 (Or.inr sz_b1)
  show oE _ _ _ _ (T2.setTop (mkF m 33 #[.val (.int 2), .val (.int ce0), .val (.int ce1), .val (.int ce2), .val (.int ce3)] [(.ref b1)]))
  refine oT (fun _ u => XS.dup X2.here hx rfl (hb hby d2_33) rfl rfl u) ?_
  refine oT (fun _ u => XS.iconst X2.here hx rfl (hb hby d2_34) u) ?_
  refine oT (fun _ u => XS.iloadN X2.here hx rfl (hb hby d2_35) rfl u) ?_
  obtain ⟨cl3, Ar3, q3, S3, M3, H3, G3⟩ := id Vs2
  have hin3 : ¬ ((1 : Int32) < 0 ∨ cl3.slots.size ≤ ((1 : Int32)).toNatClampNeg) := inb_of S3 ⟨by decide, by decide⟩
  obtain ⟨T3, h3, X3, e3, W3, st3⟩ := stC X2 hx hZ e2 Ar3 (j := (1 : Int32)) hin3 (g := (mkF m 36 #[.val (.int 2), .val (.int ce0), .val (.int ce1), .val (.int ce2), .val (.int ce3)] [(.int ce1), (.int 1), (.ref b1), (.ref b1)])) rfl rfl (hb hby d2_36)
  have Vs3 : Arv Z h3 b1 k1 .char (2 : Int32) [(.int ce0), (.int (nar .char ce1))] (.int (0 : Int32)) := Arv.set Ar3 q3 S3 M3 H3 G3 (fits_nar_char _) W3 1 rfl (own_lt rfl)
  rw [show (nar .char ce1) = ce1 from (own_nc HE1)] at Vs3
  refine oT st3 ?_
  have O3 := O2.wr W3 g_b1
  have N3 := Fr.snoc X3 N2 g_b1
  have K3 := K2.wr W3 (Or.inr sz_b1)
  show oE _ _ _ _ (T3.setTop (mkF m 37 #[.val (.int 2), .val (.int ce0), .val (.int ce1), .val (.int ce2), .val (.int ce3)] [(.ref b1)]))
  refine own_leave X3 (v := some (.ref b1)) (fun h => by rw [Bd.returns] at h; cases h) ?_ (by decide) (by decide) (fun fs hr => retOut X3 hx Bd.returns rfl (Or.inr (Or.inr (Or.inr (Or.inr ⟨rfl, rfl, rfl⟩)))) (hb hby d2_37) hr)
  show Q_rmC2 Z ce0 ce1 ce2 ce3 h0 n0 _ T3.heap _
  rw [e3]
  exact ⟨b1, k1, rfl, g_b1, sz_b1, N3, O3, K3, Vs3⟩
theorem d2_38 : decode method_5_code 38 = .ok (.iload_n 0, 1) := by decide +kernel
theorem d2_39 : decode method_5_code 39 = .ok (.iconst 3, 1) := by decide +kernel
theorem d2_40 : decode method_5_code 40 = .ok (.if_icmp .ne 19, 3) := by decide +kernel
theorem d2_43 : decode method_5_code 43 = .ok (.iconst 3, 1) := by decide +kernel
theorem d2_44 : decode method_5_code 44 = .ok (.newarray .char, 2) := by decide +kernel
theorem d2_46 : decode method_5_code 46 = .ok (.dup, 1) := by decide +kernel
theorem d2_47 : decode method_5_code 47 = .ok (.iconst 0, 1) := by decide +kernel
theorem d2_48 : decode method_5_code 48 = .ok (.iload_n 1, 1) := by decide +kernel
theorem d2_49 : decode method_5_code 49 = .ok (.castore, 1) := by decide +kernel
theorem d2_50 : decode method_5_code 50 = .ok (.dup, 1) := by decide +kernel
theorem d2_51 : decode method_5_code 51 = .ok (.iconst 1, 1) := by decide +kernel
theorem d2_52 : decode method_5_code 52 = .ok (.iload_n 2, 1) := by decide +kernel
theorem d2_53 : decode method_5_code 53 = .ok (.castore, 1) := by decide +kernel
theorem d2_54 : decode method_5_code 54 = .ok (.dup, 1) := by decide +kernel
theorem d2_55 : decode method_5_code 55 = .ok (.iconst 2, 1) := by decide +kernel
theorem d2_56 : decode method_5_code 56 = .ok (.iload_n 3, 1) := by decide +kernel
theorem d2_57 : decode method_5_code 57 = .ok (.castore, 1) := by decide +kernel
theorem d2_58 : decode method_5_code 58 = .ok (.areturn, 1) := by decide +kernel
theorem ef_rmC3 (m : MethodId) (ce0 : Int32) (ce1 : Int32) (ce2 : Int32) (ce3 : Int32)  : entryFrame m #[(.int (3 : Int32)), (.int ce0), (.int ce1), (.int ce2), (.int ce3)] 5 = mkF m 0 #[.val (.int (3 : Int32)), .val (.int ce0), .val (.int ce1), .val (.int ce2), .val (.int ce3)] [] := by first | (simp [entryFrame, mkF, argsToLocals, Value.category]; done) | rfl | (rcases ref_cases hrf with rfl | ⟨q, rfl⟩ <;> rfl)
def Q_rmC3 (Z : State) (ce0 : Int32) (ce1 : Int32) (ce2 : Int32) (ce3 : Int32)  (h0 : Heap) (n0 : Nat) (v : Option Value) (h : Heap) (L : List Loc) : Prop := ∃ (b : Addr) (kb : ClassId), v = some (.ref b) ∧ n0 ≤ b ∧ h0.size ≤ b ∧ Fr n0 L ∧ Old Z n0 h ∧ Keep h0 h [] ∧ Arv Z h b kb .char (3 : Int32) [(.int ce0), (.int ce1), (.int ce2)] (.int (0 : Int32))
theorem rmC3 (l : Launch) (Z : State) (a0 : Array Value) (hw : ∀ d ∈ tables_1, d.before a0 Z = true) (ws : List Jvm.Cond) (ce0 : Int32) (ce1 : Int32) (ce2 : Int32) (ce3 : Int32)  (h0 : Heap) (n0 : Nat) (O0 : Old Z n0 h0) (HE0 : own_Ch ce0) (HE1 : own_Ch ce1) (HE2 : own_Ch ce2) (HE3 : own_Ch ce3) :
    MetFree l oM1 (head1 (Jvm.Cond.code oM1 method_5_code 5 (some (.array .char)) :: ws) ({ frames := 0, cells := 1, slots := 3, locals := 0 } : Room)) (fun aq_ U => aq_ = #[(.int (3 : Int32)), (.int ce0), (.int ce1), (.int ce2), (.int ce3)] ∧ Z.Warmed39 U.vm ∧ U.heap = h0) (fun _ _ _ _ _ => True) (fun _ U o U' => ∃ v L, o = .returned v ∧ Q_rmC3 Z ce0 ce1 ce2 ce3 h0 n0 v U'.heap L ∧ FrameEnd U o U' L 1 3) := by
  refine MetFree.of_bodySF (plainFor_of_name pn_2) hisR ?_
  intro p e s m args below meth c s₁ Bd hml0 hP hK
  obtain ⟨rfl, hZ, hh⟩ := hP
  have hx := Bd.exec
  have hby := Bd.bytes
  have hml : c.maxLocals = 5 := hml0
  have hown : s.vm.findClass "com/example/quittance/quittance/apply/CashApplicationFitsDescriptionPinLaw" = some m.cls := findClass_of_methodNamed Bd.named
  have hnm := (name_of_methodNamed Bd.named Bd.method).1
  have X0 : Stand p l e ({ frames := 0, cells := 1, slots := 3, locals := 0 } : Room) s m #[(.int (3 : Int32)), (.int ce0), (.int ce1), (.int ce2), (.int ce3)] below meth c s₁ [] 0 0 := Stand.of_body Bd
  have e0 : s₁.heap = h0 := by rw [← hh, Bd.state]; rfl
  have N0 := Fr.nil n0
  show oE p.tables e below (own_P s (Q_rmC3 Z ce0 ce1 ce2 ce3 h0 n0) 1 3) _
  refine own_cast (ef_rmC3 m ce0 ce1 ce2 ce3) ?_
  have K0 := Keep.refl h0 []
  show oE _ _ _ _ (s₁.setTop (mkF m 0 #[.val (.int 3), .val (.int ce0), .val (.int ce1), .val (.int ce2), .val (.int ce3)] []))
  refine oT (fun _ u => XS.iloadN X0.here hx rfl (hb hby d2_0) rfl u) ?_
  refine oT (fun _ u => XS.ifYes X0.here hx rfl (pc0 := 1) (pc' := 8) rfl (hb hby d2_1) rfl ((if0 _ _).trans (feq (by decide)).2) (by decide) (by decide) u) ?_
  show oE _ _ _ _ (s₁.setTop (mkF m 8 #[.val (.int 3), .val (.int ce0), .val (.int ce1), .val (.int ce2), .val (.int ce3)] []))
  refine oT (fun _ u => XS.iloadN X0.here hx rfl (hb hby d2_8) rfl u) ?_
  refine oT (fun _ u => XS.iconst X0.here hx rfl (hb hby d2_9) u) ?_
  refine oT (fun _ u => XS.icmpYes X0.here hx rfl (pc0 := 10) (pc' := 21) rfl (hb hby d2_10) rfl (feq (by decide)).2 (by decide) (by decide) u) ?_
  show oE _ _ _ _ (s₁.setTop (mkF m 21 #[.val (.int 3), .val (.int ce0), .val (.int ce1), .val (.int ce2), .val (.int ce3)] []))
  refine oT (fun _ u => XS.iloadN X0.here hx rfl (hb hby d2_21) rfl u) ?_
  refine oT (fun _ u => XS.iconst X0.here hx rfl (hb hby d2_22) u) ?_
  refine oT (fun _ u => XS.icmpYes X0.here hx rfl (pc0 := 23) (pc' := 38) rfl (hb hby d2_23) rfl (feq (by decide)).2 (by decide) (by decide) u) ?_
  show oE _ _ _ _ (s₁.setTop (mkF m 38 #[.val (.int 3), .val (.int ce0), .val (.int ce1), .val (.int ce2), .val (.int ce3)] []))
  refine oT (fun _ u => XS.iloadN X0.here hx rfl (hb hby d2_38) rfl u) ?_
  refine oT (fun _ u => XS.iconst X0.here hx rfl (hb hby d2_39) u) ?_
  refine oT (fun _ u => XS.icmpNo X0.here hx rfl (hb hby d2_40) rfl (teq (by decide)).2 u) ?_
  show oE _ _ _ _ (s₁.setTop (mkF m 43 #[.val (.int 3), .val (.int ce0), .val (.int ce1), .val (.int ce2), .val (.int ce3)] []))
  refine oT (fun _ u => XS.iconst X0.here hx rfl (hb hby d2_43) u) ?_
  obtain ⟨T1, h1, k1, X1, e1, E1, A1, st1⟩ := newP X0 hx hZ (aty := .char) (ow13 hw) e0 (g := (mkF m 44 #[.val (.int 3), .val (.int ce0), .val (.int ce1), .val (.int ce2), .val (.int ce3)] [(.int 3)])) rfl (hb hby d2_44) rfl (by decide) (cap := 3) (by decide) (by decide) (by decide) (by decide)
  obtain ⟨b1, g1⟩ : ∃ z, z = h0.size := ⟨_, rfl⟩
  rw [← g1] at A1 st1
  have g_b1 : n0 ≤ b1 := Nat.le_trans (own_old_le O0) (Nat.le_of_eq g1.symm)
  have sz_b1 : h0.size ≤ b1 := Nat.le_trans K0.1 (Nat.le_of_eq g1.symm)
  refine oT st1 ?_
  have O1 := O0.ext E1
  have K1 := K0.ext E1
  have Vn1 : Arv Z h1 b1 k1 .char (3 : Int32) [(.int (0 : Int32)), (.int (0 : Int32)), (.int (0 : Int32))] (.int (0 : Int32)) := (Arv.new A1 (by decide)).pad (pad_rep [] (.int (0 : Int32)) 3)
  show oE _ _ _ _ (T1.setTop (mkF m 46 #[.val (.int 3), .val (.int ce0), .val (.int ce1), .val (.int ce2), .val (.int ce3)] [(.ref b1)]))
  refine oT (fun _ u => XS.dup X1.here hx rfl (hb hby d2_46) rfl rfl u) ?_
  refine oT (fun _ u => XS.iconst X1.here hx rfl (hb hby d2_47) u) ?_
  refine oT (fun _ u => XS.iloadN X1.here hx rfl (hb hby d2_48) rfl u) ?_
  obtain ⟨cl2, Ar2, q2, S2, M2, H2, G2⟩ := id Vn1
  have hin2 : ¬ ((0 : Int32) < 0 ∨ cl2.slots.size ≤ ((0 : Int32)).toNatClampNeg) := inb_of S2 ⟨by decide, by decide⟩
  obtain ⟨T2, h2, X2, e2, W2, st2⟩ := stC X1 hx hZ e1 Ar2 (j := (0 : Int32)) hin2 (g := (mkF m 49 #[.val (.int 3), .val (.int ce0), .val (.int ce1), .val (.int ce2), .val (.int ce3)] [(.int ce0), (.int 0), (.ref b1), (.ref b1)])) rfl rfl (hb hby d2_49)
  have Vs2 : Arv Z h2 b1 k1 .char (3 : Int32) [(.int (nar .char ce0)), (.int (0 : Int32)), (.int (0 : Int32))] (.int (0 : Int32)) := Arv.set Ar2 q2 S2 M2 H2 G2 (fits_nar_char _) W2 0 rfl (own_lt rfl)
  rw [show (nar .char ce0) = ce0 from (own_nc HE0)] at Vs2
  refine oT st2 ?_
  have O2 := O1.wr W2 g_b1
  have N2 := Fr.snoc X2 N0 g_b1
  have K2 := K1.wr W2 (Or.inr sz_b1)
  show oE _ _ _ _ (T2.setTop (mkF m 50 #[.val (.int 3), .val (.int ce0), .val (.int ce1), .val (.int ce2), .val (.int ce3)] [(.ref b1)]))
  refine oT (fun _ u => XS.dup X2.here hx rfl (hb hby d2_50) rfl rfl u) ?_
  refine oT (fun _ u => XS.iconst X2.here hx rfl (hb hby d2_51) u) ?_
  refine oT (fun _ u => XS.iloadN X2.here hx rfl (hb hby d2_52) rfl u) ?_
  obtain ⟨cl3, Ar3, q3, S3, M3, H3, G3⟩ := id Vs2
  have hin3 : ¬ ((1 : Int32) < 0 ∨ cl3.slots.size ≤ ((1 : Int32)).toNatClampNeg) := inb_of S3 ⟨by decide, by decide⟩
  obtain ⟨T3, h3, X3, e3, W3, st3⟩ := stC X2 hx hZ e2 Ar3 (j := (1 : Int32)) hin3 (g := (mkF m 53 #[.val (.int 3), .val (.int ce0), .val (.int ce1), .val (.int ce2), .val (.int ce3)] [(.int ce1), (.int 1), (.ref b1), (.ref b1)])) rfl rfl (hb hby d2_53)
  have Vs3 : Arv Z h3 b1 k1 .char (3 : Int32) [(.int ce0), (.int (nar .char ce1)), (.int (0 : Int32))] (.int (0 : Int32)) := Arv.set Ar3 q3 S3 M3 H3 G3 (fits_nar_char _) W3 1 rfl (own_lt rfl)
  rw [show (nar .char ce1) = ce1 from (own_nc HE1)] at Vs3
  refine oT st3 ?_
  have O3 := O2.wr W3 g_b1
  have N3 := Fr.snoc X3 N2 g_b1
  have K3 := K2.wr W3 (Or.inr sz_b1)
  show oE _ _ _ _ (T3.setTop (mkF m 54 #[.val (.int 3), .val (.int ce0), .val (.int ce1), .val (.int ce2), .val (.int ce3)] [(.ref b1)]))
  refine oT (fun _ u => XS.dup X3.here hx rfl (hb hby d2_54) rfl rfl u) ?_
  refine oT (fun _ u => XS.iconst X3.here hx rfl (hb hby d2_55) u) ?_
  refine oT (fun _ u => XS.iloadN X3.here hx rfl (hb hby d2_56) rfl u) ?_
  obtain ⟨cl4, Ar4, q4, S4, M4, H4, G4⟩ := id Vs3
  have hin4 : ¬ ((2 : Int32) < 0 ∨ cl4.slots.size ≤ ((2 : Int32)).toNatClampNeg) := inb_of S4 ⟨by decide, by decide⟩
  obtain ⟨T4, h4, X4, e4, W4, st4⟩ := stC X3 hx hZ e3 Ar4 (j := (2 : Int32)) hin4 (g := (mkF m 57 #[.val (.int 3), .val (.int ce0), .val (.int ce1), .val (.int ce2), .val (.int ce3)] [(.int ce2), (.int 2), (.ref b1), (.ref b1)])) rfl rfl (hb hby d2_57)
  have Vs4 : Arv Z h4 b1 k1 .char (3 : Int32) [(.int ce0), (.int ce1), (.int (nar .char ce2))] (.int (0 : Int32)) := Arv.set Ar4 q4 S4 M4 H4 G4 (fits_nar_char _) W4 2 rfl (own_lt rfl)
  rw [show (nar .char ce2) = ce2 from (own_nc HE2)] at Vs4
  refine oT st4 ?_
  have O4 := O3.wr W4 g_b1
  have N4 := Fr.snoc X4 N3 g_b1
  have K4 := K3.wr W4 (Or.inr sz_b1)
  show oE _ _ _ _ (T4.setTop (mkF m 58 #[.val (.int 3), .val (.int ce0), .val (.int ce1), .val (.int ce2), .val (.int ce3)] [(.ref b1)]))
  refine own_leave X4 (v := some (.ref b1)) (fun h => by rw [Bd.returns] at h; cases h) ?_ (by decide) (by decide) (fun fs hr => retOut X4 hx Bd.returns rfl (Or.inr (Or.inr (Or.inr (Or.inr ⟨rfl, rfl, rfl⟩)))) (hb hby d2_58) hr)
  show Q_rmC3 Z ce0 ce1 ce2 ce3 h0 n0 _ T4.heap _
  rw [e4]
  exact ⟨b1, k1, rfl, g_b1, sz_b1, N4, O4, K4, Vs4⟩
theorem d2_59 : decode method_5_code 59 = .ok (.iconst 4, 1) := by decide +kernel
theorem d2_60 : decode method_5_code 60 = .ok (.newarray .char, 2) := by decide +kernel
theorem d2_62 : decode method_5_code 62 = .ok (.dup, 1) := by decide +kernel
theorem d2_63 : decode method_5_code 63 = .ok (.iconst 0, 1) := by decide +kernel
theorem d2_64 : decode method_5_code 64 = .ok (.iload_n 1, 1) := by decide +kernel
theorem d2_65 : decode method_5_code 65 = .ok (.castore, 1) := by decide +kernel
theorem d2_66 : decode method_5_code 66 = .ok (.dup, 1) := by decide +kernel
theorem d2_67 : decode method_5_code 67 = .ok (.iconst 1, 1) := by decide +kernel
theorem d2_68 : decode method_5_code 68 = .ok (.iload_n 2, 1) := by decide +kernel
theorem d2_69 : decode method_5_code 69 = .ok (.castore, 1) := by decide +kernel
theorem d2_70 : decode method_5_code 70 = .ok (.dup, 1) := by decide +kernel
theorem d2_71 : decode method_5_code 71 = .ok (.iconst 2, 1) := by decide +kernel
theorem d2_72 : decode method_5_code 72 = .ok (.iload_n 3, 1) := by decide +kernel
theorem d2_73 : decode method_5_code 73 = .ok (.castore, 1) := by decide +kernel
theorem d2_74 : decode method_5_code 74 = .ok (.dup, 1) := by decide +kernel
theorem d2_75 : decode method_5_code 75 = .ok (.iconst 3, 1) := by decide +kernel
theorem d2_76 : decode method_5_code 76 = .ok (.iload 4, 2) := by decide +kernel
theorem d2_78 : decode method_5_code 78 = .ok (.castore, 1) := by decide +kernel
theorem d2_79 : decode method_5_code 79 = .ok (.areturn, 1) := by decide +kernel
theorem ef_rmC4 (m : MethodId) (ce0 : Int32) (ce1 : Int32) (ce2 : Int32) (ce3 : Int32)  : entryFrame m #[(.int (4 : Int32)), (.int ce0), (.int ce1), (.int ce2), (.int ce3)] 5 = mkF m 0 #[.val (.int (4 : Int32)), .val (.int ce0), .val (.int ce1), .val (.int ce2), .val (.int ce3)] [] := by first | (simp [entryFrame, mkF, argsToLocals, Value.category]; done) | rfl | (rcases ref_cases hrf with rfl | ⟨q, rfl⟩ <;> rfl)
def Q_rmC4 (Z : State) (ce0 : Int32) (ce1 : Int32) (ce2 : Int32) (ce3 : Int32)  (h0 : Heap) (n0 : Nat) (v : Option Value) (h : Heap) (L : List Loc) : Prop := ∃ (b : Addr) (kb : ClassId), v = some (.ref b) ∧ n0 ≤ b ∧ h0.size ≤ b ∧ Fr n0 L ∧ Old Z n0 h ∧ Keep h0 h [] ∧ Arv Z h b kb .char (4 : Int32) [(.int ce0), (.int ce1), (.int ce2), (.int ce3)] (.int (0 : Int32))
theorem rmC4 (l : Launch) (Z : State) (a0 : Array Value) (hw : ∀ d ∈ tables_1, d.before a0 Z = true) (ws : List Jvm.Cond) (ce0 : Int32) (ce1 : Int32) (ce2 : Int32) (ce3 : Int32)  (h0 : Heap) (n0 : Nat) (O0 : Old Z n0 h0) (HE0 : own_Ch ce0) (HE1 : own_Ch ce1) (HE2 : own_Ch ce2) (HE3 : own_Ch ce3) :
    MetFree l oM1 (head1 (Jvm.Cond.code oM1 method_5_code 5 (some (.array .char)) :: ws) ({ frames := 0, cells := 1, slots := 4, locals := 0 } : Room)) (fun aq_ U => aq_ = #[(.int (4 : Int32)), (.int ce0), (.int ce1), (.int ce2), (.int ce3)] ∧ Z.Warmed39 U.vm ∧ U.heap = h0) (fun _ _ _ _ _ => True) (fun _ U o U' => ∃ v L, o = .returned v ∧ Q_rmC4 Z ce0 ce1 ce2 ce3 h0 n0 v U'.heap L ∧ FrameEnd U o U' L 1 4) := by
  refine MetFree.of_bodySF (plainFor_of_name pn_2) hisR ?_
  intro p e s m args below meth c s₁ Bd hml0 hP hK
  obtain ⟨rfl, hZ, hh⟩ := hP
  have hx := Bd.exec
  have hby := Bd.bytes
  have hml : c.maxLocals = 5 := hml0
  have hown : s.vm.findClass "com/example/quittance/quittance/apply/CashApplicationFitsDescriptionPinLaw" = some m.cls := findClass_of_methodNamed Bd.named
  have hnm := (name_of_methodNamed Bd.named Bd.method).1
  have X0 : Stand p l e ({ frames := 0, cells := 1, slots := 4, locals := 0 } : Room) s m #[(.int (4 : Int32)), (.int ce0), (.int ce1), (.int ce2), (.int ce3)] below meth c s₁ [] 0 0 := Stand.of_body Bd
  have e0 : s₁.heap = h0 := by rw [← hh, Bd.state]; rfl
  have N0 := Fr.nil n0
  show oE p.tables e below (own_P s (Q_rmC4 Z ce0 ce1 ce2 ce3 h0 n0) 1 4) _
  refine own_cast (ef_rmC4 m ce0 ce1 ce2 ce3) ?_
  have K0 := Keep.refl h0 []
  show oE _ _ _ _ (s₁.setTop (mkF m 0 #[.val (.int 4), .val (.int ce0), .val (.int ce1), .val (.int ce2), .val (.int ce3)] []))
  refine oT (fun _ u => XS.iloadN X0.here hx rfl (hb hby d2_0) rfl u) ?_
  refine oT (fun _ u => XS.ifYes X0.here hx rfl (pc0 := 1) (pc' := 8) rfl (hb hby d2_1) rfl ((if0 _ _).trans (feq (by decide)).2) (by decide) (by decide) u) ?_
  show oE _ _ _ _ (s₁.setTop (mkF m 8 #[.val (.int 4), .val (.int ce0), .val (.int ce1), .val (.int ce2), .val (.int ce3)] []))
  refine oT (fun _ u => XS.iloadN X0.here hx rfl (hb hby d2_8) rfl u) ?_
  refine oT (fun _ u => XS.iconst X0.here hx rfl (hb hby d2_9) u) ?_
  refine oT (fun _ u => XS.icmpYes X0.here hx rfl (pc0 := 10) (pc' := 21) rfl (hb hby d2_10) rfl (feq (by decide)).2 (by decide) (by decide) u) ?_
  show oE _ _ _ _ (s₁.setTop (mkF m 21 #[.val (.int 4), .val (.int ce0), .val (.int ce1), .val (.int ce2), .val (.int ce3)] []))
  refine oT (fun _ u => XS.iloadN X0.here hx rfl (hb hby d2_21) rfl u) ?_
  refine oT (fun _ u => XS.iconst X0.here hx rfl (hb hby d2_22) u) ?_
  refine oT (fun _ u => XS.icmpYes X0.here hx rfl (pc0 := 23) (pc' := 38) rfl (hb hby d2_23) rfl (feq (by decide)).2 (by decide) (by decide) u) ?_
  show oE _ _ _ _ (s₁.setTop (mkF m 38 #[.val (.int 4), .val (.int ce0), .val (.int ce1), .val (.int ce2), .val (.int ce3)] []))
  refine oT (fun _ u => XS.iloadN X0.here hx rfl (hb hby d2_38) rfl u) ?_
  refine oT (fun _ u => XS.iconst X0.here hx rfl (hb hby d2_39) u) ?_
  refine oT (fun _ u => XS.icmpYes X0.here hx rfl (pc0 := 40) (pc' := 59) rfl (hb hby d2_40) rfl (feq (by decide)).2 (by decide) (by decide) u) ?_
  show oE _ _ _ _ (s₁.setTop (mkF m 59 #[.val (.int 4), .val (.int ce0), .val (.int ce1), .val (.int ce2), .val (.int ce3)] []))
  refine oT (fun _ u => XS.iconst X0.here hx rfl (hb hby d2_59) u) ?_
  obtain ⟨T1, h1, k1, X1, e1, E1, A1, st1⟩ := newP X0 hx hZ (aty := .char) (ow13 hw) e0 (g := (mkF m 60 #[.val (.int 4), .val (.int ce0), .val (.int ce1), .val (.int ce2), .val (.int ce3)] [(.int 4)])) rfl (hb hby d2_60) rfl (by decide) (cap := 4) (by decide) (by decide) (by decide) (by decide)
  obtain ⟨b1, g1⟩ : ∃ z, z = h0.size := ⟨_, rfl⟩
  rw [← g1] at A1 st1
  have g_b1 : n0 ≤ b1 := Nat.le_trans (own_old_le O0) (Nat.le_of_eq g1.symm)
  have sz_b1 : h0.size ≤ b1 := Nat.le_trans K0.1 (Nat.le_of_eq g1.symm)
  refine oT st1 ?_
  have O1 := O0.ext E1
  have K1 := K0.ext E1
  have Vn1 : Arv Z h1 b1 k1 .char (4 : Int32) [(.int (0 : Int32)), (.int (0 : Int32)), (.int (0 : Int32)), (.int (0 : Int32))] (.int (0 : Int32)) := (Arv.new A1 (by decide)).pad (pad_rep [] (.int (0 : Int32)) 4)
  show oE _ _ _ _ (T1.setTop (mkF m 62 #[.val (.int 4), .val (.int ce0), .val (.int ce1), .val (.int ce2), .val (.int ce3)] [(.ref b1)]))
  refine oT (fun _ u => XS.dup X1.here hx rfl (hb hby d2_62) rfl rfl u) ?_
  refine oT (fun _ u => XS.iconst X1.here hx rfl (hb hby d2_63) u) ?_
  refine oT (fun _ u => XS.iloadN X1.here hx rfl (hb hby d2_64) rfl u) ?_
  obtain ⟨cl2, Ar2, q2, S2, M2, H2, G2⟩ := id Vn1
  have hin2 : ¬ ((0 : Int32) < 0 ∨ cl2.slots.size ≤ ((0 : Int32)).toNatClampNeg) := inb_of S2 ⟨by decide, by decide⟩
  obtain ⟨T2, h2, X2, e2, W2, st2⟩ := stC X1 hx hZ e1 Ar2 (j := (0 : Int32)) hin2 (g := (mkF m 65 #[.val (.int 4), .val (.int ce0), .val (.int ce1), .val (.int ce2), .val (.int ce3)] [(.int ce0), (.int 0), (.ref b1), (.ref b1)])) rfl rfl (hb hby d2_65)
  have Vs2 : Arv Z h2 b1 k1 .char (4 : Int32) [(.int (nar .char ce0)), (.int (0 : Int32)), (.int (0 : Int32)), (.int (0 : Int32))] (.int (0 : Int32)) := Arv.set Ar2 q2 S2 M2 H2 G2 (fits_nar_char _) W2 0 rfl (own_lt rfl)
  rw [show (nar .char ce0) = ce0 from (own_nc HE0)] at Vs2
  refine oT st2 ?_
  have O2 := O1.wr W2 g_b1
  have N2 := Fr.snoc X2 N0 g_b1
  have K2 := K1.wr W2 (Or.inr sz_b1)
  show oE _ _ _ _ (T2.setTop (mkF m 66 #[.val (.int 4), .val (.int ce0), .val (.int ce1), .val (.int ce2), .val (.int ce3)] [(.ref b1)]))
  refine oT (fun _ u => XS.dup X2.here hx rfl (hb hby d2_66) rfl rfl u) ?_
  refine oT (fun _ u => XS.iconst X2.here hx rfl (hb hby d2_67) u) ?_
  refine oT (fun _ u => XS.iloadN X2.here hx rfl (hb hby d2_68) rfl u) ?_
  obtain ⟨cl3, Ar3, q3, S3, M3, H3, G3⟩ := id Vs2
  have hin3 : ¬ ((1 : Int32) < 0 ∨ cl3.slots.size ≤ ((1 : Int32)).toNatClampNeg) := inb_of S3 ⟨by decide, by decide⟩
  obtain ⟨T3, h3, X3, e3, W3, st3⟩ := stC X2 hx hZ e2 Ar3 (j := (1 : Int32)) hin3 (g := (mkF m 69 #[.val (.int 4), .val (.int ce0), .val (.int ce1), .val (.int ce2), .val (.int ce3)] [(.int ce1), (.int 1), (.ref b1), (.ref b1)])) rfl rfl (hb hby d2_69)
  have Vs3 : Arv Z h3 b1 k1 .char (4 : Int32) [(.int ce0), (.int (nar .char ce1)), (.int (0 : Int32)), (.int (0 : Int32))] (.int (0 : Int32)) := Arv.set Ar3 q3 S3 M3 H3 G3 (fits_nar_char _) W3 1 rfl (own_lt rfl)
  rw [show (nar .char ce1) = ce1 from (own_nc HE1)] at Vs3
  refine oT st3 ?_
  have O3 := O2.wr W3 g_b1
  have N3 := Fr.snoc X3 N2 g_b1
  have K3 := K2.wr W3 (Or.inr sz_b1)
  show oE _ _ _ _ (T3.setTop (mkF m 70 #[.val (.int 4), .val (.int ce0), .val (.int ce1), .val (.int ce2), .val (.int ce3)] [(.ref b1)]))
  refine oT (fun _ u => XS.dup X3.here hx rfl (hb hby d2_70) rfl rfl u) ?_
  refine oT (fun _ u => XS.iconst X3.here hx rfl (hb hby d2_71) u) ?_
  refine oT (fun _ u => XS.iloadN X3.here hx rfl (hb hby d2_72) rfl u) ?_
  obtain ⟨cl4, Ar4, q4, S4, M4, H4, G4⟩ := id Vs3
  have hin4 : ¬ ((2 : Int32) < 0 ∨ cl4.slots.size ≤ ((2 : Int32)).toNatClampNeg) := inb_of S4 ⟨by decide, by decide⟩
  obtain ⟨T4, h4, X4, e4, W4, st4⟩ := stC X3 hx hZ e3 Ar4 (j := (2 : Int32)) hin4 (g := (mkF m 73 #[.val (.int 4), .val (.int ce0), .val (.int ce1), .val (.int ce2), .val (.int ce3)] [(.int ce2), (.int 2), (.ref b1), (.ref b1)])) rfl rfl (hb hby d2_73)
  have Vs4 : Arv Z h4 b1 k1 .char (4 : Int32) [(.int ce0), (.int ce1), (.int (nar .char ce2)), (.int (0 : Int32))] (.int (0 : Int32)) := Arv.set Ar4 q4 S4 M4 H4 G4 (fits_nar_char _) W4 2 rfl (own_lt rfl)
  rw [show (nar .char ce2) = ce2 from (own_nc HE2)] at Vs4
  refine oT st4 ?_
  have O4 := O3.wr W4 g_b1
  have N4 := Fr.snoc X4 N3 g_b1
  have K4 := K3.wr W4 (Or.inr sz_b1)
  show oE _ _ _ _ (T4.setTop (mkF m 74 #[.val (.int 4), .val (.int ce0), .val (.int ce1), .val (.int ce2), .val (.int ce3)] [(.ref b1)]))
  refine oT (fun _ u => XS.dup X4.here hx rfl (hb hby d2_74) rfl rfl u) ?_
  refine oT (fun _ u => XS.iconst X4.here hx rfl (hb hby d2_75) u) ?_
  refine oT (fun _ u => XS.iload X4.here hx rfl (hb hby d2_76) rfl u) ?_
  obtain ⟨cl5, Ar5, q5, S5, M5, H5, G5⟩ := id Vs4
  have hin5 : ¬ ((3 : Int32) < 0 ∨ cl5.slots.size ≤ ((3 : Int32)).toNatClampNeg) := inb_of S5 ⟨by decide, by decide⟩
  obtain ⟨T5, h5, X5, e5, W5, st5⟩ := stC X4 hx hZ e4 Ar5 (j := (3 : Int32)) hin5 (g := (mkF m 78 #[.val (.int 4), .val (.int ce0), .val (.int ce1), .val (.int ce2), .val (.int ce3)] [(.int ce3), (.int 3), (.ref b1), (.ref b1)])) rfl rfl (hb hby d2_78)
  have Vs5 : Arv Z h5 b1 k1 .char (4 : Int32) [(.int ce0), (.int ce1), (.int ce2), (.int (nar .char ce3))] (.int (0 : Int32)) := Arv.set Ar5 q5 S5 M5 H5 G5 (fits_nar_char _) W5 3 rfl (own_lt rfl)
  rw [show (nar .char ce3) = ce3 from (own_nc HE3)] at Vs5
  refine oT st5 ?_
  have O5 := O4.wr W5 g_b1
  have N5 := Fr.snoc X5 N4 g_b1
  have K5 := K4.wr W5 (Or.inr sz_b1)
  show oE _ _ _ _ (T5.setTop (mkF m 79 #[.val (.int 4), .val (.int ce0), .val (.int ce1), .val (.int ce2), .val (.int ce3)] [(.ref b1)]))
  refine own_leave X5 (v := some (.ref b1)) (fun h => by rw [Bd.returns] at h; cases h) ?_ (by decide) (by decide) (fun fs hr => retOut X5 hx Bd.returns rfl (Or.inr (Or.inr (Or.inr (Or.inr ⟨rfl, rfl, rfl⟩)))) (hb hby d2_79) hr)
  show Q_rmC4 Z ce0 ce1 ce2 ce3 h0 n0 _ T5.heap _
  rw [e5]
  exact ⟨b1, k1, rfl, g_b1, sz_b1, N5, O5, K5, Vs5⟩
theorem d17_0 : decode jdk_41_method_11_code 0 = .ok (.iload_n 0, 1) := by decide +kernel
theorem d17_1 : decode jdk_41_method_11_code 1 = .ok (.ifCond .lt 8, 3) := by decide +kernel
theorem d17_4 : decode jdk_41_method_11_code 4 = .ok (.iload_n 0, 1) := by decide +kernel
theorem d17_5 : decode jdk_41_method_11_code 5 = .ok (.iload_n 1, 1) := by decide +kernel
theorem d17_6 : decode jdk_41_method_11_code 6 = .ok (.if_icmp .lt 10, 3) := by decide +kernel
theorem d17_16 : decode jdk_41_method_11_code 16 = .ok (.iload_n 0, 1) := by decide +kernel
theorem d17_17 : decode jdk_41_method_11_code 17 = .ok (.ireturn, 1) := by decide +kernel
theorem pn_17 : plainName "jdk/internal/util/Preconditions" = true := by first | (simp [plainName, overriddenIn]; done) | decide +kernel
theorem ef_rmPI (m : MethodId) (i : Int32) (n : Int32) (rf_ : Value) (hrf : rf_.isRef = true) : entryFrame m #[(.int i), (.int n), rf_] 3 = mkF m 0 #[.val (.int i), .val (.int n), .val rf_] [] := by first | (simp [entryFrame, mkF, argsToLocals, Value.category]; done) | rfl | (rcases ref_cases hrf with rfl | ⟨q, rfl⟩ <;> rfl)
def Q_rmPI (Z : State) (i : Int32) (n : Int32) (rf_ : Value) (hrf : rf_.isRef = true) (h0 : Heap) (n0 : Nat) (v : Option Value) (h : Heap) (L : List Loc) : Prop := v = some (.int i) ∧ Fr n0 L ∧ h = h0
theorem rmPI (l : Launch) (Z : State) (a0 : Array Value) (hw : ∀ d ∈ tables_1, d.before a0 Z = true) (ws : List Jvm.Cond) (i : Int32) (n : Int32) (rf_ : Value) (hrf : rf_.isRef = true) (h0 : Heap) (n0 : Nat) (O0 : Old Z n0 h0) (hi : ¬ i < (0 : Int32)) (hin : i < n) :
    MetFree l oM2 (head1 (Jvm.Cond.code oM2 jdk_41_method_11_code 3 (some .int) :: ws) ({ frames := 0, cells := 0, slots := 0, locals := 0 } : Room)) (fun aq_ U => aq_ = #[(.int i), (.int n), rf_] ∧ Z.Warmed39 U.vm ∧ U.heap = h0) (fun _ _ _ _ _ => True) (fun _ U o U' => ∃ v L, o = .returned v ∧ Q_rmPI Z i n rf_ hrf h0 n0 v U'.heap L ∧ FrameEnd U o U' L 0 0) := by
  refine MetFree.of_bodySF (plainFor_of_name pn_17) hisR ?_
  intro p e s m args below meth c s₁ Bd hml0 hP hK
  obtain ⟨rfl, hZ, hh⟩ := hP
  have hx := Bd.exec
  have hby := Bd.bytes
  have hml : c.maxLocals = 3 := hml0
  have hown : s.vm.findClass "jdk/internal/util/Preconditions" = some m.cls := findClass_of_methodNamed Bd.named
  have hnm := (name_of_methodNamed Bd.named Bd.method).1
  have X0 : Stand p l e ({ frames := 0, cells := 0, slots := 0, locals := 0 } : Room) s m #[(.int i), (.int n), rf_] below meth c s₁ [] 0 0 := Stand.of_body Bd
  have e0 : s₁.heap = h0 := by rw [← hh, Bd.state]; rfl
  have N0 := Fr.nil n0
  show oE p.tables e below (own_P s (Q_rmPI Z i n rf_ hrf h0 n0) 0 0) _
  refine own_cast (ef_rmPI m i n rf_ hrf) ?_
  show oE _ _ _ _ (s₁.setTop (mkF m 0 #[.val (.int i), .val (.int n), .val rf_] []))
  refine oT (fun _ u => XS.iloadN X0.here hx rfl (hb hby d17_0) rfl u) ?_
  refine oT (fun _ u => XS.ifNo X0.here hx rfl (hb hby d17_1) rfl ((if0 _ _).trans (flt hi).1) u) ?_
  show oE _ _ _ _ (s₁.setTop (mkF m 4 #[.val (.int i), .val (.int n), .val rf_] []))
  refine oT (fun _ u => XS.iloadN X0.here hx rfl (hb hby d17_4) rfl u) ?_
  refine oT (fun _ u => XS.iloadN X0.here hx rfl (hb hby d17_5) rfl u) ?_
  refine oT (fun _ u => XS.icmpYes X0.here hx rfl (pc0 := 6) (pc' := 16) rfl (hb hby d17_6) rfl (tlt hin).1 (by decide) (by decide) u) ?_
  show oE _ _ _ _ (s₁.setTop (mkF m 16 #[.val (.int i), .val (.int n), .val rf_] []))
  refine oT (fun _ u => XS.iloadN X0.here hx rfl (hb hby d17_16) rfl u) ?_
  refine own_leave X0 (v := some (.int i)) (fun h => by rw [Bd.returns] at h; cases h) ?_ (by decide) (by decide) (fun fs hr => retOut X0 hx Bd.returns rfl (Or.inl ⟨rfl, Or.inl rfl, _, rfl⟩) (hb hby d17_17) hr)
  show Q_rmPI Z i n rf_ hrf h0 n0 _ s₁.heap _
  rw [e0]
  exact ⟨rfl, N0, rfl⟩
theorem d16_0 : decode jdk_42_method_155_code 0 = .ok (.iload_n 0, 1) := by decide +kernel
theorem d16_1 : decode jdk_42_method_155_code 1 = .ok (.iload_n 1, 1) := by decide +kernel
theorem d16_2 : decode jdk_42_method_155_code 2 = .ok (.getstatic 1053, 3) := by decide +kernel
theorem d16_5 : decode jdk_42_method_155_code 5 = .ok (.invokestatic 1059, 3) := by decide +kernel
theorem d16_8 : decode jdk_42_method_155_code 8 = .ok (.pop, 1) := by decide +kernel
theorem d16_9 : decode jdk_42_method_155_code 9 = .ok (.return_, 1) := by decide +kernel
theorem pn_16 : plainName "java/lang/String" = true := by first | (simp [plainName, overriddenIn]; done) | decide +kernel
theorem pd_0 : parseMethodDescriptor "(IILjava/util/function/BiFunction;)I" = some ⟨[.int, .int, (.object "java/util/function/BiFunction")], some .int⟩ := by decide +kernel
theorem ef_rmCI (m : MethodId) (i : Int32) (n : Int32) : entryFrame m #[(.int i), (.int n)] 2 = mkF m 0 #[.val (.int i), .val (.int n)] [] := by first | (simp [entryFrame, mkF, argsToLocals, Value.category]; done) | rfl | (rcases ref_cases hrf with rfl | ⟨q, rfl⟩ <;> rfl)
def Q_rmCI (Z : State) (i : Int32) (n : Int32) (cs_ : Int32) (rf_ : Value) (h0 : Heap) (n0 : Nat) (v : Option Value) (h : Heap) (L : List Loc) : Prop := v = none ∧ Fr n0 L ∧ h = h0
theorem rmCI (l : Launch) (Z : State) (a0 : Array Value) (hw : ∀ d ∈ tables_1, d.before a0 Z = true) (ws : List Jvm.Cond) (i : Int32) (n : Int32) (cs_ : Int32) (rf_ : Value) (h0 : Heap) (n0 : Nat) (O0 : Old Z n0 h0) (HS : own_HS Z cs_ rf_) (hi : ¬ i < (0 : Int32)) (hin : i < n) :
    MetFree l oM3 (head1 (Jvm.Cond.code oM3 jdk_42_method_155_code 2 none :: ws) ({ frames := 1, cells := 0, slots := 0, locals := 14 } : Room)) (fun aq_ U => aq_ = #[(.int i), (.int n)] ∧ Z.Warmed39 U.vm ∧ U.heap = h0) (fun _ _ _ _ _ => True) (fun _ U o U' => ∃ v L, o = .returned v ∧ Q_rmCI Z i n cs_ rf_ h0 n0 v U'.heap L ∧ FrameEnd U o U' L 0 0) := by
  refine MetFree.of_bodySF (plainFor_of_name pn_16) hisR ?_
  intro p e s m args below meth c s₁ Bd hml0 hP hK
  obtain ⟨rfl, hZ, hh⟩ := hP
  have hx := Bd.exec
  have hby := Bd.bytes
  have hml : c.maxLocals = 2 := hml0
  have hown : s.vm.findClass "java/lang/String" = some m.cls := findClass_of_methodNamed Bd.named
  have hnm := (name_of_methodNamed Bd.named Bd.method).1
  have X0 : Stand p l e ({ frames := 1, cells := 0, slots := 0, locals := 14 } : Room) s m #[(.int i), (.int n)] below meth c s₁ [] 0 0 := Stand.of_body Bd
  have e0 : s₁.heap = h0 := by rw [← hh, Bd.state]; rfl
  have N0 := Fr.nil n0
  show oE p.tables e below (own_P s (Q_rmCI Z i n cs_ rf_ h0 n0) 0 0) _
  refine own_cast (ef_rmCI m i n) ?_
  show oE _ _ _ _ (s₁.setTop (mkF m 0 #[.val (.int i), .val (.int n)] []))
  refine oT (fun _ u => XS.iloadN X0.here hx rfl (hb hby d16_0) rfl u) ?_
  refine oT (fun _ u => XS.iloadN X0.here hx rfl (hb hby d16_1) rfl u) ?_
  obtain ⟨T1, X1, e1, st1⟩ := getS2 X0 hx hZ hown (host := "") (Or.inl (ow77 hw)) Via.refl e0 (HS.2.1.ext O0.2) (g := (mkF m 2 #[.val (.int i), .val (.int n)] [(.int n), (.int i)])) rfl (hb hby d16_2)
  refine oT st1 ?_
  show oE _ _ _ _ (T1.setTop (mkF m 5 #[.val (.int i), .val (.int n)] [rf_, (.int n), (.int i)]))
  obtain ⟨_, _, ⟨T2, L2, k2, n2⟩, -, X2, ⟨Lc2, hQ2, l2, y2, z2⟩, st2⟩ := Jvm.LawKit.callS X1 hx (y := oM2) hown (mvT hZ (ow79 hw)) (mvT hZ (ow80 hw)) (mvT hZ (ow78 hw)) (mvT hZ (ow81 hw)) (by decide) (backOf (W := 0) (rmPI l Z a0 hw [] i n rf_ HS.2.2.2.2.2.2 h0 n0 O0 hi hin) hZ (ow81 hw) (ow78 hw) (by decide) (by decide)) (g := (mkF m 5 #[.val (.int i), .val (.int n)] [rf_, (.int n), (.int i)])) rfl (by rw [hml]; rfl) (argsL := [(.int i), (.int n), rf_]) (rest := []) (lenOf pd_0 rfl) rfl (by show 2 * 0 + _ ≤ _; exact Nat.le_of_eq rfl) (hb hby d16_5) (fun _ _ => ⟨rfl, e1, (own_le rfl), (own_le rfl)⟩)
  dsimp only [Pt.U, Pt.locs, Pt.cells, Pt.slots] at X2 l2 y2 z2 st2 hQ2
  subst y2 z2
  obtain ⟨rfl, N2q, E2⟩ := hQ2
  have N2 := own_fr l2 N0 N2q
  refine oT st2 ?_
  show oE _ _ _ _ (T2.setTop (mkF m 8 #[.val (.int i), .val (.int n)] [(.int i)]))
  refine oT (fun _ u => XS.pop X2.here hx rfl (hb hby d16_8) rfl rfl u) ?_
  refine own_leave X2 (v := none) (fun _ => rfl) ?_ (by decide) (by decide) (fun fs hr => X2.returnOut hx Bd.returns (hb hby d16_9) hr)
  show Q_rmCI Z i n cs_ rf_ h0 n0 _ T2.heap _
  rw [E2]
  exact ⟨rfl, N2, rfl⟩
theorem d19_0 : decode jdk_89_method_89_code 0 = .ok (.iload_n 0, 1) := by decide +kernel
theorem d19_1 : decode jdk_89_method_89_code 1 = .ok (.sipush 159, 3) := by decide +kernel
theorem d19_4 : decode jdk_89_method_89_code 4 = .ok (.if_icmp .gt 19, 3) := by decide +kernel
theorem d19_7 : decode jdk_89_method_89_code 7 = .ok (.iload_n 0, 1) := by decide +kernel
theorem d19_8 : decode jdk_89_method_89_code 8 = .ok (.bipush 127, 2) := by decide +kernel
theorem d19_10 : decode jdk_89_method_89_code 10 = .ok (.if_icmp .ge 9, 3) := by decide +kernel
theorem d19_13 : decode jdk_89_method_89_code 13 = .ok (.iload_n 0, 1) := by decide +kernel
theorem d19_14 : decode jdk_89_method_89_code 14 = .ok (.iconst 5, 1) := by decide +kernel
theorem d19_15 : decode jdk_89_method_89_code 15 = .ok (.iushr, 1) := by decide +kernel
theorem d19_16 : decode jdk_89_method_89_code 16 = .ok (.ifCond .ne 7, 3) := by decide +kernel
theorem d19_19 : decode jdk_89_method_89_code 19 = .ok (.iconst 1, 1) := by decide +kernel
theorem d19_20 : decode jdk_89_method_89_code 20 = .ok (.goto 4, 3) := by decide +kernel
theorem d19_23 : decode jdk_89_method_89_code 23 = .ok (.iconst 0, 1) := by decide +kernel
theorem d19_24 : decode jdk_89_method_89_code 24 = .ok (.ireturn, 1) := by decide +kernel
theorem pn_19 : plainName "java/lang/Character" = true := by first | (simp [plainName, overriddenIn]; done) | decide +kernel
theorem ef_rmI2 (m : MethodId) (ei : Int32) : entryFrame m #[(.int ei)] 1 = mkF m 0 #[.val (.int ei)] [] := by first | (simp [entryFrame, mkF, argsToLocals, Value.category]; done) | rfl | (rcases ref_cases hrf with rfl | ⟨q, rfl⟩ <;> rfl)
def Q_rmI2 (Z : State) (ei : Int32)  (h0 : Heap) (n0 : Nat) (v : Option Value) (h : Heap) (L : List Loc) : Prop := v = some (.int (own_iso ei)) ∧ Fr n0 L ∧ h = h0
theorem rmI2 (l : Launch) (Z : State) (a0 : Array Value) (hw : ∀ d ∈ tables_1, d.before a0 Z = true) (ws : List Jvm.Cond) (ei : Int32)  (h0 : Heap) (n0 : Nat) (O0 : Old Z n0 h0) :
    MetFree l oM4 (head1 (Jvm.Cond.code oM4 jdk_89_method_89_code 1 (some .boolean) :: ws) ({ frames := 0, cells := 0, slots := 0, locals := 0 } : Room)) (fun aq_ U => aq_ = #[(.int ei)] ∧ Z.Warmed39 U.vm ∧ U.heap = h0) (fun _ _ _ _ _ => True) (fun _ U o U' => ∃ v L, o = .returned v ∧ Q_rmI2 Z ei h0 n0 v U'.heap L ∧ FrameEnd U o U' L 0 0) := by
  refine MetFree.of_bodySF (plainFor_of_name pn_19) hisR ?_
  intro p e s m args below meth c s₁ Bd hml0 hP hK
  obtain ⟨rfl, hZ, hh⟩ := hP
  have hx := Bd.exec
  have hby := Bd.bytes
  have hml : c.maxLocals = 1 := hml0
  have hown : s.vm.findClass "java/lang/Character" = some m.cls := findClass_of_methodNamed Bd.named
  have hnm := (name_of_methodNamed Bd.named Bd.method).1
  have X0 : Stand p l e ({ frames := 0, cells := 0, slots := 0, locals := 0 } : Room) s m #[(.int ei)] below meth c s₁ [] 0 0 := Stand.of_body Bd
  have e0 : s₁.heap = h0 := by rw [← hh, Bd.state]; rfl
  have N0 := Fr.nil n0
  show oE p.tables e below (own_P s (Q_rmI2 Z ei h0 n0) 0 0) _
  refine own_cast (ef_rmI2 m ei) ?_
  show oE _ _ _ _ (s₁.setTop (mkF m 0 #[.val (.int ei)] []))
  refine oT (fun _ u => XS.iloadN X0.here hx rfl (hb hby d19_0) rfl u) ?_
  refine oT (fun _ u => XS.sipush X0.here hx rfl (hb hby d19_1) u) ?_
  by_cases hc4_1 : (159 : Int32) < ei
  · -- pc 4: (159 : Int32) < ei
    refine oT (fun _ u => XS.icmpYes X0.here hx rfl (pc0 := 4) (pc' := 23) rfl (hb hby d19_4) rfl (tlt hc4_1).2.2.1 (by decide) (by decide) u) ?_
    show oE _ _ _ _ (s₁.setTop (mkF m 23 #[.val (.int ei)] []))
    refine oT (fun _ u => XS.iconst X0.here hx rfl (hb hby d19_23) u) ?_
    refine own_leave X0 (v := some (.int (0 : Int32))) (fun h => by rw [Bd.returns] at h; cases h) ?_ (by decide) (by decide) (fun fs hr => retN X0 hx (t := .boolean) Bd.returns (by simp) (hb hby d19_24) hr)
    show Q_rmI2 Z ei h0 n0 _ s₁.heap _
    rw [e0]
    exact ⟨by simp only [own_iso, *, ↓reduceIte], N0, rfl⟩
  · -- pc 4: not (159 : Int32) < ei
    refine oT (fun _ u => XS.icmpNo X0.here hx rfl (hb hby d19_4) rfl (flt hc4_1).2.2.1 u) ?_
    show oE _ _ _ _ (s₁.setTop (mkF m 7 #[.val (.int ei)] []))
    refine oT (fun _ u => XS.iloadN X0.here hx rfl (hb hby d19_7) rfl u) ?_
    refine oT (fun _ u => XS.bipush X0.here hx rfl (hb hby d19_8) u) ?_
    by_cases hc10_2 : ei < (127 : Int32)
    · -- pc 10: ei < (127 : Int32)
      refine oT (fun _ u => XS.icmpNo X0.here hx rfl (hb hby d19_10) rfl (tlt hc10_2).2.1 u) ?_
      show oE _ _ _ _ (s₁.setTop (mkF m 13 #[.val (.int ei)] []))
      refine oT (fun _ u => XS.iloadN X0.here hx rfl (hb hby d19_13) rfl u) ?_
      refine oT (fun _ u => XS.iconst X0.here hx rfl (hb hby d19_14) u) ?_
      refine oT (fun _ u => XS.iushr X0.here hx rfl (hb hby d19_15) rfl u) ?_
      show oE _ _ _ _ (s₁.setTop (mkF m 16 #[.val (.int ei)] [(.int ((ei.toUInt32 >>> ((5 : Int32) &&& 31).toUInt32).toInt32))]))
      by_cases hc16_3 : ((ei.toUInt32 >>> ((5 : Int32) &&& 31).toUInt32).toInt32) = (0 : Int32)
      · -- pc 16: ((ei.toUInt32 >>> ((5 : Int32) &&& 31).toUInt32).toInt32) = (0 : Int32)
        refine oT (fun _ u => XS.ifNo X0.here hx rfl (hb hby d19_16) rfl ((if0 _ _).trans (teq hc16_3).2) u) ?_
        show oE _ _ _ _ (s₁.setTop (mkF m 19 #[.val (.int ei)] []))
        refine oT (fun _ u => XS.iconst X0.here hx rfl (hb hby d19_19) u) ?_
        refine oT (fun _ u => XS.goto X0.here hx rfl (pc0 := 20) (pc' := 24) rfl (hb hby d19_20) (by decide) (by decide) u) ?_
        refine own_leave X0 (v := some (.int (1 : Int32))) (fun h => by rw [Bd.returns] at h; cases h) ?_ (by decide) (by decide) (fun fs hr => retN X0 hx (t := .boolean) Bd.returns (by simp) (hb hby d19_24) hr)
        show Q_rmI2 Z ei h0 n0 _ s₁.heap _
        rw [e0]
        exact ⟨by simp only [own_iso, *, ↓reduceIte], N0, rfl⟩
      · -- pc 16: not ((ei.toUInt32 >>> ((5 : Int32) &&& 31).toUInt32).toInt32) = (0 : Int32)
        refine oT (fun _ u => XS.ifYes X0.here hx rfl (pc0 := 16) (pc' := 23) rfl (hb hby d19_16) rfl ((if0 _ _).trans (feq hc16_3).2) (by decide) (by decide) u) ?_
        show oE _ _ _ _ (s₁.setTop (mkF m 23 #[.val (.int ei)] []))
        refine oT (fun _ u => XS.iconst X0.here hx rfl (hb hby d19_23) u) ?_
        refine own_leave X0 (v := some (.int (0 : Int32))) (fun h => by rw [Bd.returns] at h; cases h) ?_ (by decide) (by decide) (fun fs hr => retN X0 hx (t := .boolean) Bd.returns (by simp) (hb hby d19_24) hr)
        show Q_rmI2 Z ei h0 n0 _ s₁.heap _
        rw [e0]
        exact ⟨by simp only [own_iso, *, ↓reduceIte], N0, rfl⟩
    · -- pc 10: not ei < (127 : Int32)
      refine oT (fun _ u => XS.icmpYes X0.here hx rfl (pc0 := 10) (pc' := 19) rfl (hb hby d19_10) rfl (flt hc10_2).2.1 (by decide) (by decide) u) ?_
      show oE _ _ _ _ (s₁.setTop (mkF m 19 #[.val (.int ei)] []))
      refine oT (fun _ u => XS.iconst X0.here hx rfl (hb hby d19_19) u) ?_
      refine oT (fun _ u => XS.goto X0.here hx rfl (pc0 := 20) (pc' := 24) rfl (hb hby d19_20) (by decide) (by decide) u) ?_
      refine own_leave X0 (v := some (.int (1 : Int32))) (fun h => by rw [Bd.returns] at h; cases h) ?_ (by decide) (by decide) (fun fs hr => retN X0 hx (t := .boolean) Bd.returns (by simp) (hb hby d19_24) hr)
      show Q_rmI2 Z ei h0 n0 _ s₁.heap _
      rw [e0]
      exact ⟨by simp only [own_iso, *, ↓reduceIte], N0, rfl⟩
theorem own_iso_nar (e : Int32) : nar .boolean (own_iso e) = own_iso e := by
  unfold own_iso
  repeat' split
  all_goals decide
theorem d18_0 : decode jdk_89_method_88_code 0 = .ok (.iload_n 0, 1) := by decide +kernel
theorem d18_1 : decode jdk_89_method_88_code 1 = .ok (.invokestatic 266, 3) := by decide +kernel
theorem d18_4 : decode jdk_89_method_88_code 4 = .ok (.ireturn, 1) := by decide +kernel
theorem pn_18 : plainName "java/lang/Character" = true := by first | (simp [plainName, overriddenIn]; done) | decide +kernel
theorem pd_1 : parseMethodDescriptor "(I)Z" = some ⟨[.int], some .boolean⟩ := by decide +kernel
theorem ef_rmI1 (m : MethodId) (ei : Int32) : entryFrame m #[(.int ei)] 1 = mkF m 0 #[.val (.int ei)] [] := by first | (simp [entryFrame, mkF, argsToLocals, Value.category]; done) | rfl | (rcases ref_cases hrf with rfl | ⟨q, rfl⟩ <;> rfl)
def Q_rmI1 (Z : State) (ei : Int32)  (h0 : Heap) (n0 : Nat) (v : Option Value) (h : Heap) (L : List Loc) : Prop := v = some (.int (own_iso ei)) ∧ Fr n0 L ∧ h = h0
theorem rmI1 (l : Launch) (Z : State) (a0 : Array Value) (hw : ∀ d ∈ tables_1, d.before a0 Z = true) (ws : List Jvm.Cond) (ei : Int32)  (h0 : Heap) (n0 : Nat) (O0 : Old Z n0 h0) :
    MetFree l oM5 (head1 (Jvm.Cond.code oM5 jdk_89_method_88_code 1 (some .boolean) :: ws) ({ frames := 1, cells := 0, slots := 0, locals := 12 } : Room)) (fun aq_ U => aq_ = #[(.int ei)] ∧ Z.Warmed39 U.vm ∧ U.heap = h0) (fun _ _ _ _ _ => True) (fun _ U o U' => ∃ v L, o = .returned v ∧ Q_rmI1 Z ei h0 n0 v U'.heap L ∧ FrameEnd U o U' L 0 0) := by
  refine MetFree.of_bodySF (plainFor_of_name pn_18) hisR ?_
  intro p e s m args below meth c s₁ Bd hml0 hP hK
  obtain ⟨rfl, hZ, hh⟩ := hP
  have hx := Bd.exec
  have hby := Bd.bytes
  have hml : c.maxLocals = 1 := hml0
  have hown : s.vm.findClass "java/lang/Character" = some m.cls := findClass_of_methodNamed Bd.named
  have hnm := (name_of_methodNamed Bd.named Bd.method).1
  have X0 : Stand p l e ({ frames := 1, cells := 0, slots := 0, locals := 12 } : Room) s m #[(.int ei)] below meth c s₁ [] 0 0 := Stand.of_body Bd
  have e0 : s₁.heap = h0 := by rw [← hh, Bd.state]; rfl
  have N0 := Fr.nil n0
  show oE p.tables e below (own_P s (Q_rmI1 Z ei h0 n0) 0 0) _
  refine own_cast (ef_rmI1 m ei) ?_
  show oE _ _ _ _ (s₁.setTop (mkF m 0 #[.val (.int ei)] []))
  refine oT (fun _ u => XS.iloadN X0.here hx rfl (hb hby d18_0) rfl u) ?_
  obtain ⟨_, _, ⟨T1, L1, k1, n1⟩, -, X1, ⟨Lc1, hQ1, l1, y1, z1⟩, st1⟩ := Jvm.LawKit.callS X0 hx (y := oM4) hown (mvT hZ (ow86 hw)) (mvT hZ (ow87 hw)) (mvT hZ (ow84 hw)) (mvT hZ (ow88 hw)) (by decide) (backOf (W := 0) (rmI2 l Z a0 hw [] ei  h0 n0 O0 ) hZ (ow88 hw) (ow84 hw) (by decide) (by decide)) (g := (mkF m 1 #[.val (.int ei)] [(.int ei)])) rfl (by rw [hml]; rfl) (argsL := [(.int ei)]) (rest := []) (lenOf pd_1 rfl) rfl (by show 2 * 0 + _ ≤ _; exact Nat.le_of_eq rfl) (hb hby d18_1) (fun _ _ => ⟨rfl, e0, (own_le rfl), (own_le rfl)⟩)
  dsimp only [Pt.U, Pt.locs, Pt.cells, Pt.slots] at X1 l1 y1 z1 st1 hQ1
  subst y1 z1
  obtain ⟨rfl, N1q, E1⟩ := hQ1
  have N1 := own_fr l1 N0 N1q
  refine oT st1 ?_
  show oE _ _ _ _ (T1.setTop (mkF m 4 #[.val (.int ei)] [(.int (own_iso ei))]))
  refine own_leave X1 (v := some (.int (nar .boolean (own_iso ei)))) (fun h => by rw [Bd.returns] at h; cases h) ?_ (by decide) (by decide) (fun fs hr => retN X1 hx (t := .boolean) Bd.returns (by simp) (hb hby d18_4) hr)
  show Q_rmI1 Z ei h0 n0 _ T1.heap _
  rw [E1]
  exact ⟨by rw [own_iso_nar], N1, rfl⟩
theorem d12_0 : decode method_4_code 0 = .ok (.iload_n 0, 1) := by decide +kernel
theorem d12_1 : decode method_4_code 1 = .ok (.bipush 59, 2) := by decide +kernel
theorem d12_3 : decode method_4_code 3 = .ok (.if_icmp .ne 5, 3) := by decide +kernel
theorem d12_6 : decode method_4_code 6 = .ok (.iconst 0, 1) := by decide +kernel
theorem d12_7 : decode method_4_code 7 = .ok (.ireturn, 1) := by decide +kernel
theorem d12_8 : decode method_4_code 8 = .ok (.iload_n 0, 1) := by decide +kernel
theorem d12_9 : decode method_4_code 9 = .ok (.bipush 31, 2) := by decide +kernel
theorem d12_11 : decode method_4_code 11 = .ok (.if_icmp .gt 5, 3) := by decide +kernel
theorem d12_14 : decode method_4_code 14 = .ok (.iconst 0, 1) := by decide +kernel
theorem d12_15 : decode method_4_code 15 = .ok (.ireturn, 1) := by decide +kernel
theorem d12_16 : decode method_4_code 16 = .ok (.iload_n 0, 1) := by decide +kernel
theorem d12_17 : decode method_4_code 17 = .ok (.bipush 127, 2) := by decide +kernel
theorem d12_19 : decode method_4_code 19 = .ok (.if_icmp .lt 12, 3) := by decide +kernel
theorem d12_22 : decode method_4_code 22 = .ok (.iload_n 0, 1) := by decide +kernel
theorem d12_23 : decode method_4_code 23 = .ok (.sipush 159, 3) := by decide +kernel
theorem d12_26 : decode method_4_code 26 = .ok (.if_icmp .gt 5, 3) := by decide +kernel
theorem d12_29 : decode method_4_code 29 = .ok (.iconst 0, 1) := by decide +kernel
theorem d12_30 : decode method_4_code 30 = .ok (.ireturn, 1) := by decide +kernel
theorem d12_31 : decode method_4_code 31 = .ok (.iconst 1, 1) := by decide +kernel
theorem d12_32 : decode method_4_code 32 = .ok (.ireturn, 1) := by decide +kernel
theorem pn_12 : plainName "com/example/quittance/quittance/apply/CashApplicationFitsDescriptionPinLaw" = true := by first | (simp [plainName, overriddenIn]; done) | decide +kernel
theorem ef_rmFi (m : MethodId) (ei : Int32) : entryFrame m #[(.int ei)] 1 = mkF m 0 #[.val (.int ei)] [] := by first | (simp [entryFrame, mkF, argsToLocals, Value.category]; done) | rfl | (rcases ref_cases hrf with rfl | ⟨q, rfl⟩ <;> rfl)
def Q_rmFi (Z : State) (ei : Int32)  (h0 : Heap) (n0 : Nat) (v : Option Value) (h : Heap) (L : List Loc) : Prop := v = some (.int (own_f ei)) ∧ Fr n0 L ∧ h = h0
theorem rmFi (l : Launch) (Z : State) (a0 : Array Value) (hw : ∀ d ∈ tables_1, d.before a0 Z = true) (ws : List Jvm.Cond) (ei : Int32)  (h0 : Heap) (n0 : Nat) (O0 : Old Z n0 h0) :
    MetFree l oM6 (head1 (Jvm.Cond.code oM6 method_4_code 1 (some .boolean) :: ws) ({ frames := 0, cells := 0, slots := 0, locals := 0 } : Room)) (fun aq_ U => aq_ = #[(.int ei)] ∧ Z.Warmed39 U.vm ∧ U.heap = h0) (fun _ _ _ _ _ => True) (fun _ U o U' => ∃ v L, o = .returned v ∧ Q_rmFi Z ei h0 n0 v U'.heap L ∧ FrameEnd U o U' L 0 0) := by
  refine MetFree.of_bodySF (plainFor_of_name pn_12) hisR ?_
  intro p e s m args below meth c s₁ Bd hml0 hP hK
  obtain ⟨rfl, hZ, hh⟩ := hP
  have hx := Bd.exec
  have hby := Bd.bytes
  have hml : c.maxLocals = 1 := hml0
  have hown : s.vm.findClass "com/example/quittance/quittance/apply/CashApplicationFitsDescriptionPinLaw" = some m.cls := findClass_of_methodNamed Bd.named
  have hnm := (name_of_methodNamed Bd.named Bd.method).1
  have X0 : Stand p l e ({ frames := 0, cells := 0, slots := 0, locals := 0 } : Room) s m #[(.int ei)] below meth c s₁ [] 0 0 := Stand.of_body Bd
  have e0 : s₁.heap = h0 := by rw [← hh, Bd.state]; rfl
  have N0 := Fr.nil n0
  show oE p.tables e below (own_P s (Q_rmFi Z ei h0 n0) 0 0) _
  refine own_cast (ef_rmFi m ei) ?_
  show oE _ _ _ _ (s₁.setTop (mkF m 0 #[.val (.int ei)] []))
  refine oT (fun _ u => XS.iloadN X0.here hx rfl (hb hby d12_0) rfl u) ?_
  refine oT (fun _ u => XS.bipush X0.here hx rfl (hb hby d12_1) u) ?_
  by_cases hc3_1 : ei = (59 : Int32)
  · -- pc 3: ei = (59 : Int32)
    refine oT (fun _ u => XS.icmpNo X0.here hx rfl (hb hby d12_3) rfl (teq hc3_1).2 u) ?_
    show oE _ _ _ _ (s₁.setTop (mkF m 6 #[.val (.int ei)] []))
    refine oT (fun _ u => XS.iconst X0.here hx rfl (hb hby d12_6) u) ?_
    refine own_leave X0 (v := some (.int (0 : Int32))) (fun h => by rw [Bd.returns] at h; cases h) ?_ (by decide) (by decide) (fun fs hr => retN X0 hx (t := .boolean) Bd.returns (by simp) (hb hby d12_7) hr)
    show Q_rmFi Z ei h0 n0 _ s₁.heap _
    rw [e0]
    exact ⟨by simp [own_f, *], N0, rfl⟩
  · -- pc 3: not ei = (59 : Int32)
    refine oT (fun _ u => XS.icmpYes X0.here hx rfl (pc0 := 3) (pc' := 8) rfl (hb hby d12_3) rfl (feq hc3_1).2 (by decide) (by decide) u) ?_
    show oE _ _ _ _ (s₁.setTop (mkF m 8 #[.val (.int ei)] []))
    refine oT (fun _ u => XS.iloadN X0.here hx rfl (hb hby d12_8) rfl u) ?_
    refine oT (fun _ u => XS.bipush X0.here hx rfl (hb hby d12_9) u) ?_
    by_cases hc11_2 : (31 : Int32) < ei
    · -- pc 11: (31 : Int32) < ei
      refine oT (fun _ u => XS.icmpYes X0.here hx rfl (pc0 := 11) (pc' := 16) rfl (hb hby d12_11) rfl (tlt hc11_2).2.2.1 (by decide) (by decide) u) ?_
      show oE _ _ _ _ (s₁.setTop (mkF m 16 #[.val (.int ei)] []))
      refine oT (fun _ u => XS.iloadN X0.here hx rfl (hb hby d12_16) rfl u) ?_
      refine oT (fun _ u => XS.bipush X0.here hx rfl (hb hby d12_17) u) ?_
      by_cases hc19_3 : ei < (127 : Int32)
      · -- pc 19: ei < (127 : Int32)
        refine oT (fun _ u => XS.icmpYes X0.here hx rfl (pc0 := 19) (pc' := 31) rfl (hb hby d12_19) rfl (tlt hc19_3).1 (by decide) (by decide) u) ?_
        show oE _ _ _ _ (s₁.setTop (mkF m 31 #[.val (.int ei)] []))
        refine oT (fun _ u => XS.iconst X0.here hx rfl (hb hby d12_31) u) ?_
        refine own_leave X0 (v := some (.int (1 : Int32))) (fun h => by rw [Bd.returns] at h; cases h) ?_ (by decide) (by decide) (fun fs hr => retN X0 hx (t := .boolean) Bd.returns (by simp) (hb hby d12_32) hr)
        show Q_rmFi Z ei h0 n0 _ s₁.heap _
        rw [e0]
        exact ⟨by simp [own_f, *], N0, rfl⟩
      · -- pc 19: not ei < (127 : Int32)
        refine oT (fun _ u => XS.icmpNo X0.here hx rfl (hb hby d12_19) rfl (flt hc19_3).1 u) ?_
        show oE _ _ _ _ (s₁.setTop (mkF m 22 #[.val (.int ei)] []))
        refine oT (fun _ u => XS.iloadN X0.here hx rfl (hb hby d12_22) rfl u) ?_
        refine oT (fun _ u => XS.sipush X0.here hx rfl (hb hby d12_23) u) ?_
        by_cases hc26_4 : (159 : Int32) < ei
        · -- pc 26: (159 : Int32) < ei
          refine oT (fun _ u => XS.icmpYes X0.here hx rfl (pc0 := 26) (pc' := 31) rfl (hb hby d12_26) rfl (tlt hc26_4).2.2.1 (by decide) (by decide) u) ?_
          show oE _ _ _ _ (s₁.setTop (mkF m 31 #[.val (.int ei)] []))
          refine oT (fun _ u => XS.iconst X0.here hx rfl (hb hby d12_31) u) ?_
          refine own_leave X0 (v := some (.int (1 : Int32))) (fun h => by rw [Bd.returns] at h; cases h) ?_ (by decide) (by decide) (fun fs hr => retN X0 hx (t := .boolean) Bd.returns (by simp) (hb hby d12_32) hr)
          show Q_rmFi Z ei h0 n0 _ s₁.heap _
          rw [e0]
          exact ⟨by simp [own_f, *], N0, rfl⟩
        · -- pc 26: not (159 : Int32) < ei
          refine oT (fun _ u => XS.icmpNo X0.here hx rfl (hb hby d12_26) rfl (flt hc26_4).2.2.1 u) ?_
          show oE _ _ _ _ (s₁.setTop (mkF m 29 #[.val (.int ei)] []))
          refine oT (fun _ u => XS.iconst X0.here hx rfl (hb hby d12_29) u) ?_
          refine own_leave X0 (v := some (.int (0 : Int32))) (fun h => by rw [Bd.returns] at h; cases h) ?_ (by decide) (by decide) (fun fs hr => retN X0 hx (t := .boolean) Bd.returns (by simp) (hb hby d12_30) hr)
          show Q_rmFi Z ei h0 n0 _ s₁.heap _
          rw [e0]
          exact ⟨by simp [own_f, *], N0, rfl⟩
    · -- pc 11: not (31 : Int32) < ei
      refine oT (fun _ u => XS.icmpNo X0.here hx rfl (hb hby d12_11) rfl (flt hc11_2).2.2.1 u) ?_
      show oE _ _ _ _ (s₁.setTop (mkF m 14 #[.val (.int ei)] []))
      refine oT (fun _ u => XS.iconst X0.here hx rfl (hb hby d12_14) u) ?_
      refine own_leave X0 (v := some (.int (0 : Int32))) (fun h => by rw [Bd.returns] at h; cases h) ?_ (by decide) (by decide) (fun fs hr => retN X0 hx (t := .boolean) Bd.returns (by simp) (hb hby d12_15) hr)
      show Q_rmFi Z ei h0 n0 _ s₁.heap _
      rw [e0]
      exact ⟨by simp [own_f, *], N0, rfl⟩
theorem d23_0 : decode jdk_52_method_4_code 0 = .ok (.getstatic 44, 3) := by decide +kernel
theorem d23_3 : decode jdk_52_method_4_code 3 = .ok (.ifCond .ne 25, 3) := by decide +kernel
theorem d23_28 : decode jdk_52_method_4_code 28 = .ok (.iload_n 1, 1) := by decide +kernel
theorem d23_29 : decode jdk_52_method_4_code 29 = .ok (.iconst 1, 1) := by decide +kernel
theorem d23_30 : decode jdk_52_method_4_code 30 = .ok (.ishl, 1) := by decide +kernel
theorem d23_31 : decode jdk_52_method_4_code 31 = .ok (.istore_n 1, 1) := by decide +kernel
theorem d23_32 : decode jdk_52_method_4_code 32 = .ok (.aload_n 0, 1) := by decide +kernel
theorem d23_33 : decode jdk_52_method_4_code 33 = .ok (.iload_n 1, 1) := by decide +kernel
theorem d23_34 : decode jdk_52_method_4_code 34 = .ok (.iinc 1 1, 3) := by decide +kernel
theorem d23_37 : decode jdk_52_method_4_code 37 = .ok (.iload_n 2, 1) := by decide +kernel
theorem d23_38 : decode jdk_52_method_4_code 38 = .ok (.getstatic 59, 3) := by decide +kernel
theorem d23_41 : decode jdk_52_method_4_code 41 = .ok (.ishr, 1) := by decide +kernel
theorem d23_42 : decode jdk_52_method_4_code 42 = .ok (.i2b, 1) := by decide +kernel
theorem d23_43 : decode jdk_52_method_4_code 43 = .ok (.bastore, 1) := by decide +kernel
theorem d23_44 : decode jdk_52_method_4_code 44 = .ok (.aload_n 0, 1) := by decide +kernel
theorem d23_45 : decode jdk_52_method_4_code 45 = .ok (.iload_n 1, 1) := by decide +kernel
theorem d23_46 : decode jdk_52_method_4_code 46 = .ok (.iload_n 2, 1) := by decide +kernel
theorem d23_47 : decode jdk_52_method_4_code 47 = .ok (.getstatic 63, 3) := by decide +kernel
theorem d23_50 : decode jdk_52_method_4_code 50 = .ok (.ishr, 1) := by decide +kernel
theorem d23_51 : decode jdk_52_method_4_code 51 = .ok (.i2b, 1) := by decide +kernel
theorem d23_52 : decode jdk_52_method_4_code 52 = .ok (.bastore, 1) := by decide +kernel
theorem d23_53 : decode jdk_52_method_4_code 53 = .ok (.return_, 1) := by decide +kernel
theorem pn_23 : plainName "java/lang/StringUTF16" = true := by first | (simp [plainName, overriddenIn]; done) | decide +kernel
theorem ef_rmPC (m : MethodId) (da : Addr) (i : Int32) (ei : Int32) : entryFrame m #[(.ref da), (.int i), (.int ei)] 3 = mkF m 0 #[.val (.ref da), .val (.int i), .val (.int ei)] [] := by first | (simp [entryFrame, mkF, argsToLocals, Value.category]; done) | rfl | (rcases ref_cases hrf with rfl | ⟨q, rfl⟩ <;> rfl)
def Q_rmPC (Z : State) (da : Addr) (i : Int32) (ei : Int32) (cs_ : Int32) (rf_ : Value) (kd : ClassId) (z : Int32) (vs : List Value) (h0 : Heap) (n0 : Nat) (v : Option Value) (h : Heap) (L : List Loc) : Prop := v = none ∧ Fr n0 L ∧ Old Z n0 h ∧ Keep h0 h [da] ∧ Arv Z h da kd .byte z ((vs.set ((i <<< ((1 : Int32) &&& 31))).toNatClampNeg (.int ((ei >>> ((0 : Int32) &&& 31)).toInt8.toInt32))).set (((i <<< ((1 : Int32) &&& 31)) + (1 : Int32))).toNatClampNeg (.int ((ei >>> ((8 : Int32) &&& 31)).toInt8.toInt32))) (.int (0 : Int32))
theorem rmPC (l : Launch) (Z : State) (a0 : Array Value) (hw : ∀ d ∈ tables_1, d.before a0 Z = true) (ws : List Jvm.Cond) (da : Addr) (i : Int32) (ei : Int32) (cs_ : Int32) (rf_ : Value) (kd : ClassId) (z : Int32) (vs : List Value) (h0 : Heap) (n0 : Nat) (O0 : Old Z n0 h0) (HS : own_HS Z cs_ rf_) (V_d : Arv Z h0 da kd .byte z vs (.int (0 : Int32))) (g_da : n0 ≤ da) (p1 : ¬ (i <<< ((1 : Int32) &&& 31)) < 0 ∧ (i <<< ((1 : Int32) &&& 31)) < z) (p2 : ¬ ((i <<< ((1 : Int32) &&& 31)) + (1 : Int32)) < 0 ∧ ((i <<< ((1 : Int32) &&& 31)) + (1 : Int32)) < z) (l1 : ((i <<< ((1 : Int32) &&& 31))).toNatClampNeg < vs.length) (l2 : (((i <<< ((1 : Int32) &&& 31)) + (1 : Int32))).toNatClampNeg < vs.length) :
    MetFree l oM7 (head1 (Jvm.Cond.code oM7 jdk_52_method_4_code 3 none :: ws) ({ frames := 0, cells := 0, slots := 0, locals := 0 } : Room)) (fun aq_ U => aq_ = #[(.ref da), (.int i), (.int ei)] ∧ Z.Warmed39 U.vm ∧ U.heap = h0) (fun _ _ _ _ _ => True) (fun _ U o U' => ∃ v L, o = .returned v ∧ Q_rmPC Z da i ei cs_ rf_ kd z vs h0 n0 v U'.heap L ∧ FrameEnd U o U' L 0 0) := by
  refine MetFree.of_bodySF (plainFor_of_name pn_23) hisR ?_
  intro p e s m args below meth c s₁ Bd hml0 hP hK
  obtain ⟨rfl, hZ, hh⟩ := hP
  have hx := Bd.exec
  have hby := Bd.bytes
  have hml : c.maxLocals = 3 := hml0
  have hown : s.vm.findClass "java/lang/StringUTF16" = some m.cls := findClass_of_methodNamed Bd.named
  have hnm := (name_of_methodNamed Bd.named Bd.method).1
  have X0 : Stand p l e ({ frames := 0, cells := 0, slots := 0, locals := 0 } : Room) s m #[(.ref da), (.int i), (.int ei)] below meth c s₁ [] 0 0 := Stand.of_body Bd
  have e0 : s₁.heap = h0 := by rw [← hh, Bd.state]; rfl
  have N0 := Fr.nil n0
  show oE p.tables e below (own_P s (Q_rmPC Z da i ei cs_ rf_ kd z vs h0 n0) 0 0) _
  refine own_cast (ef_rmPC m da i ei) ?_
  have K0 := Keep.refl h0 [da]
  show oE _ _ _ _ (s₁.setTop (mkF m 0 #[.val (.ref da), .val (.int i), .val (.int ei)] []))
  obtain ⟨T1, X1, e1, st1⟩ := getS2 X0 hx hZ hown (host := "") (Or.inl (ow102 hw)) Via.refl e0 (HS.2.2.1.ext O0.2) (g := (mkF m 0 #[.val (.ref da), .val (.int i), .val (.int ei)] [])) rfl (hb hby d23_0)
  refine oT st1 ?_
  show oE _ _ _ _ (T1.setTop (mkF m 3 #[.val (.ref da), .val (.int i), .val (.int ei)] [(.int 1)]))
  refine oT (fun _ u => XS.ifYes X1.here hx rfl (pc0 := 3) (pc' := 28) rfl (hb hby d23_3) rfl ((if0 _ _).trans (feq (by decide)).2) (by decide) (by decide) u) ?_
  show oE _ _ _ _ (T1.setTop (mkF m 28 #[.val (.ref da), .val (.int i), .val (.int ei)] []))
  refine oT (fun _ u => XS.iloadN X1.here hx rfl (hb hby d23_28) rfl u) ?_
  refine oT (fun _ u => XS.iconst X1.here hx rfl (hb hby d23_29) u) ?_
  refine oT (fun _ u => XS.ishl X1.here hx rfl (hb hby d23_30) rfl u) ?_
  show oE _ _ _ _ (T1.setTop (mkF m 31 #[.val (.ref da), .val (.int i), .val (.int ei)] [(.int (i <<< ((1 : Int32) &&& 31)))]))
  refine oT (fun _ u => XS.istoreN X1.here hx rfl (hb hby d23_31) rfl (l' := #[.val (.ref da), .val (.int (i <<< ((1 : Int32) &&& 31))), .val (.int ei)]) rfl u) ?_
  refine oT (fun _ u => XS.aloadN X1.here hx rfl (hb hby d23_32) rfl rfl u) ?_
  refine oT (fun _ u => XS.iloadN X1.here hx rfl (hb hby d23_33) rfl u) ?_
  refine oT (fun _ u => XS.iinc X1.here hx rfl (hb hby d23_34) rfl (l' := #[.val (.ref da), .val (.int ((i <<< ((1 : Int32) &&& 31)) + (1 : Int32))), .val (.int ei)]) rfl u) ?_
  show oE _ _ _ _ (T1.setTop (mkF m 37 #[.val (.ref da), .val (.int ((i <<< ((1 : Int32) &&& 31)) + (1 : Int32))), .val (.int ei)] [(.int (i <<< ((1 : Int32) &&& 31))), (.ref da)]))
  refine oT (fun _ u => XS.iloadN X1.here hx rfl (hb hby d23_37) rfl u) ?_
  obtain ⟨T2, X2, e2, st2⟩ := getS2 X1 hx hZ hown (host := "") (Or.inl (ow103 hw)) Via.refl e1 (HS.2.2.2.1.ext O0.2) (g := (mkF m 38 #[.val (.ref da), .val (.int ((i <<< ((1 : Int32) &&& 31)) + (1 : Int32))), .val (.int ei)] [(.int ei), (.int (i <<< ((1 : Int32) &&& 31))), (.ref da)])) rfl (hb hby d23_38)
  refine oT st2 ?_
  show oE _ _ _ _ (T2.setTop (mkF m 41 #[.val (.ref da), .val (.int ((i <<< ((1 : Int32) &&& 31)) + (1 : Int32))), .val (.int ei)] [(.int 0), (.int ei), (.int (i <<< ((1 : Int32) &&& 31))), (.ref da)]))
  refine oT (fun _ u => XS.ishr X2.here hx rfl (hb hby d23_41) rfl u) ?_
  show oE _ _ _ _ (T2.setTop (mkF m 42 #[.val (.ref da), .val (.int ((i <<< ((1 : Int32) &&& 31)) + (1 : Int32))), .val (.int ei)] [(.int (ei >>> ((0 : Int32) &&& 31))), (.int (i <<< ((1 : Int32) &&& 31))), (.ref da)]))
  refine oT (fun _ u => XS.i2b X2.here hx rfl (hb hby d23_42) rfl u) ?_
  obtain ⟨cl3, Ar3, q3, S3, M3, H3, G3⟩ := id V_d
  have hin3 : ¬ ((i <<< ((1 : Int32) &&& 31)) < 0 ∨ cl3.slots.size ≤ ((i <<< ((1 : Int32) &&& 31))).toNatClampNeg) := inb_of S3 p1
  obtain ⟨T3, h3, X3, e3, W3, st3⟩ := stB X2 hx hZ e2 Ar3 (j := (i <<< ((1 : Int32) &&& 31))) hin3 (g := (mkF m 43 #[.val (.ref da), .val (.int ((i <<< ((1 : Int32) &&& 31)) + (1 : Int32))), .val (.int ei)] [(.int ((ei >>> ((0 : Int32) &&& 31)).toInt8.toInt32)), (.int (i <<< ((1 : Int32) &&& 31))), (.ref da)])) rfl rfl (hb hby d23_43)
  have Vs3 : Arv Z h3 da kd .byte z (vs.set ((i <<< ((1 : Int32) &&& 31))).toNatClampNeg (.int (nar .byte ((ei >>> ((0 : Int32) &&& 31)).toInt8.toInt32)))) (.int (0 : Int32)) := Arv.set Ar3 q3 S3 M3 H3 G3 (fits_nar_byte _) W3 _ rfl l1
  rw [show (nar .byte ((ei >>> ((0 : Int32) &&& 31)).toInt8.toInt32)) = ((ei >>> ((0 : Int32) &&& 31)).toInt8.toInt32) from (own_nb _)] at Vs3
  refine oT st3 ?_
  have O3 := O0.wr W3 g_da
  have N3 := Fr.snoc X3 N0 g_da
  have K3 := K0.wr W3 (Or.inl (List.mem_of_getElem? (i := 0) rfl))
  show oE _ _ _ _ (T3.setTop (mkF m 44 #[.val (.ref da), .val (.int ((i <<< ((1 : Int32) &&& 31)) + (1 : Int32))), .val (.int ei)] []))
  refine oT (fun _ u => XS.aloadN X3.here hx rfl (hb hby d23_44) rfl rfl u) ?_
  refine oT (fun _ u => XS.iloadN X3.here hx rfl (hb hby d23_45) rfl u) ?_
  refine oT (fun _ u => XS.iloadN X3.here hx rfl (hb hby d23_46) rfl u) ?_
  obtain ⟨T4, X4, e4, st4⟩ := getS2 X3 hx hZ hown (host := "") (Or.inl (ow104 hw)) Via.refl e3 (HS.2.2.2.2.1.ext O3.2) (g := (mkF m 47 #[.val (.ref da), .val (.int ((i <<< ((1 : Int32) &&& 31)) + (1 : Int32))), .val (.int ei)] [(.int ei), (.int ((i <<< ((1 : Int32) &&& 31)) + (1 : Int32))), (.ref da)])) rfl (hb hby d23_47)
  refine oT st4 ?_
  show oE _ _ _ _ (T4.setTop (mkF m 50 #[.val (.ref da), .val (.int ((i <<< ((1 : Int32) &&& 31)) + (1 : Int32))), .val (.int ei)] [(.int 8), (.int ei), (.int ((i <<< ((1 : Int32) &&& 31)) + (1 : Int32))), (.ref da)]))
  refine oT (fun _ u => XS.ishr X4.here hx rfl (hb hby d23_50) rfl u) ?_
  show oE _ _ _ _ (T4.setTop (mkF m 51 #[.val (.ref da), .val (.int ((i <<< ((1 : Int32) &&& 31)) + (1 : Int32))), .val (.int ei)] [(.int (ei >>> ((8 : Int32) &&& 31))), (.int ((i <<< ((1 : Int32) &&& 31)) + (1 : Int32))), (.ref da)]))
  refine oT (fun _ u => XS.i2b X4.here hx rfl (hb hby d23_51) rfl u) ?_
  obtain ⟨cl5, Ar5, q5, S5, M5, H5, G5⟩ := id Vs3
  have hin5 : ¬ (((i <<< ((1 : Int32) &&& 31)) + (1 : Int32)) < 0 ∨ cl5.slots.size ≤ (((i <<< ((1 : Int32) &&& 31)) + (1 : Int32))).toNatClampNeg) := inb_of S5 p2
  obtain ⟨T5, h5, X5, e5, W5, st5⟩ := stB X4 hx hZ e4 Ar5 (j := ((i <<< ((1 : Int32) &&& 31)) + (1 : Int32))) hin5 (g := (mkF m 52 #[.val (.ref da), .val (.int ((i <<< ((1 : Int32) &&& 31)) + (1 : Int32))), .val (.int ei)] [(.int ((ei >>> ((8 : Int32) &&& 31)).toInt8.toInt32)), (.int ((i <<< ((1 : Int32) &&& 31)) + (1 : Int32))), (.ref da)])) rfl rfl (hb hby d23_52)
  have Vs5 : Arv Z h5 da kd .byte z ((vs.set ((i <<< ((1 : Int32) &&& 31))).toNatClampNeg (.int ((ei >>> ((0 : Int32) &&& 31)).toInt8.toInt32))).set (((i <<< ((1 : Int32) &&& 31)) + (1 : Int32))).toNatClampNeg (.int (nar .byte ((ei >>> ((8 : Int32) &&& 31)).toInt8.toInt32)))) (.int (0 : Int32)) := Arv.set Ar5 q5 S5 M5 H5 G5 (fits_nar_byte _) W5 _ rfl (by rw [List.length_set]; exact l2)
  rw [show (nar .byte ((ei >>> ((8 : Int32) &&& 31)).toInt8.toInt32)) = ((ei >>> ((8 : Int32) &&& 31)).toInt8.toInt32) from (own_nb _)] at Vs5
  refine oT st5 ?_
  have O5 := O3.wr W5 g_da
  have N5 := Fr.snoc X5 N3 g_da
  have K5 := K3.wr W5 (Or.inl (List.mem_of_getElem? (i := 0) rfl))
  show oE _ _ _ _ (T5.setTop (mkF m 53 #[.val (.ref da), .val (.int ((i <<< ((1 : Int32) &&& 31)) + (1 : Int32))), .val (.int ei)] []))
  refine own_leave X5 (v := none) (fun _ => rfl) ?_ (by decide) (by decide) (fun fs hr => X5.returnOut hx Bd.returns (hb hby d23_53) hr)
  show Q_rmPC Z da i ei cs_ rf_ kd z vs h0 n0 _ T5.heap _
  rw [e5]
  exact ⟨rfl, N5, O5, K5, Vs5⟩
theorem d24_0 : decode jdk_52_method_5_code 0 = .ok (.getstatic 44, 3) := by decide +kernel
theorem d24_3 : decode jdk_52_method_5_code 3 = .ok (.ifCond .ne 25, 3) := by decide +kernel
theorem d24_28 : decode jdk_52_method_5_code 28 = .ok (.iload_n 1, 1) := by decide +kernel
theorem d24_29 : decode jdk_52_method_5_code 29 = .ok (.iconst 1, 1) := by decide +kernel
theorem d24_30 : decode jdk_52_method_5_code 30 = .ok (.ishl, 1) := by decide +kernel
theorem d24_31 : decode jdk_52_method_5_code 31 = .ok (.istore_n 1, 1) := by decide +kernel
theorem d24_32 : decode jdk_52_method_5_code 32 = .ok (.aload_n 0, 1) := by decide +kernel
theorem d24_33 : decode jdk_52_method_5_code 33 = .ok (.iload_n 1, 1) := by decide +kernel
theorem d24_34 : decode jdk_52_method_5_code 34 = .ok (.iinc 1 1, 3) := by decide +kernel
theorem d24_37 : decode jdk_52_method_5_code 37 = .ok (.baload, 1) := by decide +kernel
theorem d24_38 : decode jdk_52_method_5_code 38 = .ok (.sipush 255, 3) := by decide +kernel
theorem d24_41 : decode jdk_52_method_5_code 41 = .ok (.iand, 1) := by decide +kernel
theorem d24_42 : decode jdk_52_method_5_code 42 = .ok (.getstatic 59, 3) := by decide +kernel
theorem d24_45 : decode jdk_52_method_5_code 45 = .ok (.ishl, 1) := by decide +kernel
theorem d24_46 : decode jdk_52_method_5_code 46 = .ok (.aload_n 0, 1) := by decide +kernel
theorem d24_47 : decode jdk_52_method_5_code 47 = .ok (.iload_n 1, 1) := by decide +kernel
theorem d24_48 : decode jdk_52_method_5_code 48 = .ok (.baload, 1) := by decide +kernel
theorem d24_49 : decode jdk_52_method_5_code 49 = .ok (.sipush 255, 3) := by decide +kernel
theorem d24_52 : decode jdk_52_method_5_code 52 = .ok (.iand, 1) := by decide +kernel
theorem d24_53 : decode jdk_52_method_5_code 53 = .ok (.getstatic 63, 3) := by decide +kernel
theorem d24_56 : decode jdk_52_method_5_code 56 = .ok (.ishl, 1) := by decide +kernel
theorem d24_57 : decode jdk_52_method_5_code 57 = .ok (.ior, 1) := by decide +kernel
theorem d24_58 : decode jdk_52_method_5_code 58 = .ok (.i2c, 1) := by decide +kernel
theorem d24_59 : decode jdk_52_method_5_code 59 = .ok (.ireturn, 1) := by decide +kernel
theorem pn_24 : plainName "java/lang/StringUTF16" = true := by first | (simp [plainName, overriddenIn]; done) | decide +kernel
theorem ef_rmGC (m : MethodId) (da : Addr) (i : Int32) : entryFrame m #[(.ref da), (.int i)] 2 = mkF m 0 #[.val (.ref da), .val (.int i)] [] := by first | (simp [entryFrame, mkF, argsToLocals, Value.category]; done) | rfl | (rcases ref_cases hrf with rfl | ⟨q, rfl⟩ <;> rfl)
def Q_rmGC (Z : State) (da : Addr) (i : Int32) (cs_ : Int32) (rf_ : Value) (kd : ClassId) (z : Int32) (vs : List Value) (x : Int32) (y : Int32) (h0 : Heap) (n0 : Nat) (v : Option Value) (h : Heap) (L : List Loc) : Prop := v = some (.int (own_gc x y)) ∧ Fr n0 L ∧ h = h0
theorem rmGC (l : Launch) (Z : State) (a0 : Array Value) (hw : ∀ d ∈ tables_1, d.before a0 Z = true) (ws : List Jvm.Cond) (da : Addr) (i : Int32) (cs_ : Int32) (rf_ : Value) (kd : ClassId) (z : Int32) (vs : List Value) (x : Int32) (y : Int32) (h0 : Heap) (n0 : Nat) (O0 : Old Z n0 h0) (HS : own_HS Z cs_ rf_) (V_d : Arv Z h0 da kd .byte z vs (.int (0 : Int32))) (p1 : ¬ (i <<< ((1 : Int32) &&& 31)) < 0 ∧ (i <<< ((1 : Int32) &&& 31)) < z) (p2 : ¬ ((i <<< ((1 : Int32) &&& 31)) + (1 : Int32)) < 0 ∧ ((i <<< ((1 : Int32) &&& 31)) + (1 : Int32)) < z) (gg1 : vs.getD ((i <<< ((1 : Int32) &&& 31))).toNatClampNeg (.int (0 : Int32)) = .int x) (gg2 : vs.getD (((i <<< ((1 : Int32) &&& 31)) + (1 : Int32))).toNatClampNeg (.int (0 : Int32)) = .int y) :
    MetFree l oM8 (head1 (Jvm.Cond.code oM8 jdk_52_method_5_code 2 (some .char) :: ws) ({ frames := 0, cells := 0, slots := 0, locals := 0 } : Room)) (fun aq_ U => aq_ = #[(.ref da), (.int i)] ∧ Z.Warmed39 U.vm ∧ U.heap = h0) (fun _ _ _ _ _ => True) (fun _ U o U' => ∃ v L, o = .returned v ∧ Q_rmGC Z da i cs_ rf_ kd z vs x y h0 n0 v U'.heap L ∧ FrameEnd U o U' L 0 0) := by
  refine MetFree.of_bodySF (plainFor_of_name pn_24) hisR ?_
  intro p e s m args below meth c s₁ Bd hml0 hP hK
  obtain ⟨rfl, hZ, hh⟩ := hP
  have hx := Bd.exec
  have hby := Bd.bytes
  have hml : c.maxLocals = 2 := hml0
  have hown : s.vm.findClass "java/lang/StringUTF16" = some m.cls := findClass_of_methodNamed Bd.named
  have hnm := (name_of_methodNamed Bd.named Bd.method).1
  have X0 : Stand p l e ({ frames := 0, cells := 0, slots := 0, locals := 0 } : Room) s m #[(.ref da), (.int i)] below meth c s₁ [] 0 0 := Stand.of_body Bd
  have e0 : s₁.heap = h0 := by rw [← hh, Bd.state]; rfl
  have N0 := Fr.nil n0
  show oE p.tables e below (own_P s (Q_rmGC Z da i cs_ rf_ kd z vs x y h0 n0) 0 0) _
  refine own_cast (ef_rmGC m da i) ?_
  show oE _ _ _ _ (s₁.setTop (mkF m 0 #[.val (.ref da), .val (.int i)] []))
  obtain ⟨T1, X1, e1, st1⟩ := getS2 X0 hx hZ hown (host := "") (Or.inl (ow102 hw)) Via.refl e0 (HS.2.2.1.ext O0.2) (g := (mkF m 0 #[.val (.ref da), .val (.int i)] [])) rfl (hb hby d24_0)
  refine oT st1 ?_
  show oE _ _ _ _ (T1.setTop (mkF m 3 #[.val (.ref da), .val (.int i)] [(.int 1)]))
  refine oT (fun _ u => XS.ifYes X1.here hx rfl (pc0 := 3) (pc' := 28) rfl (hb hby d24_3) rfl ((if0 _ _).trans (feq (by decide)).2) (by decide) (by decide) u) ?_
  show oE _ _ _ _ (T1.setTop (mkF m 28 #[.val (.ref da), .val (.int i)] []))
  refine oT (fun _ u => XS.iloadN X1.here hx rfl (hb hby d24_28) rfl u) ?_
  refine oT (fun _ u => XS.iconst X1.here hx rfl (hb hby d24_29) u) ?_
  refine oT (fun _ u => XS.ishl X1.here hx rfl (hb hby d24_30) rfl u) ?_
  show oE _ _ _ _ (T1.setTop (mkF m 31 #[.val (.ref da), .val (.int i)] [(.int (i <<< ((1 : Int32) &&& 31)))]))
  refine oT (fun _ u => XS.istoreN X1.here hx rfl (hb hby d24_31) rfl (l' := #[.val (.ref da), .val (.int (i <<< ((1 : Int32) &&& 31)))]) rfl u) ?_
  refine oT (fun _ u => XS.aloadN X1.here hx rfl (hb hby d24_32) rfl rfl u) ?_
  refine oT (fun _ u => XS.iloadN X1.here hx rfl (hb hby d24_33) rfl u) ?_
  refine oT (fun _ u => XS.iinc X1.here hx rfl (hb hby d24_34) rfl (l' := #[.val (.ref da), .val (.int ((i <<< ((1 : Int32) &&& 31)) + (1 : Int32)))]) rfl u) ?_
  show oE _ _ _ _ (T1.setTop (mkF m 37 #[.val (.ref da), .val (.int ((i <<< ((1 : Int32) &&& 31)) + (1 : Int32)))] [(.int (i <<< ((1 : Int32) &&& 31))), (.ref da)]))
  obtain ⟨cl2, Ar2, q2, S2, M2, H2, G2⟩ := id V_d
  have hin2 : ¬ ((i <<< ((1 : Int32) &&& 31)) < 0 ∨ cl2.slots.size ≤ ((i <<< ((1 : Int32) &&& 31))).toNatClampNeg) := inb_of S2 p1
  have hat2 : cl2.slots[((i <<< ((1 : Int32) &&& 31))).toNatClampNeg]? = some (.int x) := Has.at H2 hin2 gg1
  refine oT (fun _ u => X1.baloadBytes hx (j := (i <<< ((1 : Int32) &&& 31))) (v := (.int x)) (by rw [e1]; exact Ar2.1) (State.isArrayOf_alike hZ.alike Ar2.2.1) Ar2.2.2 hin2 hat2 (g := (mkF m 37 #[.val (.ref da), .val (.int ((i <<< ((1 : Int32) &&& 31)) + (1 : Int32)))] [(.int (i <<< ((1 : Int32) &&& 31))), (.ref da)])) rfl rfl (hb hby d24_37) _ u) ?_
  show oE _ _ _ _ (T1.setTop (mkF m 38 #[.val (.ref da), .val (.int ((i <<< ((1 : Int32) &&& 31)) + (1 : Int32)))] [(.int x)]))
  refine oT (fun _ u => XS.sipush X1.here hx rfl (hb hby d24_38) u) ?_
  refine oT (fun _ u => XS.iand X1.here hx rfl (hb hby d24_41) rfl u) ?_
  obtain ⟨T3, X3, e3, st3⟩ := getS2 X1 hx hZ hown (host := "") (Or.inl (ow103 hw)) Via.refl e1 (HS.2.2.2.1.ext O0.2) (g := (mkF m 42 #[.val (.ref da), .val (.int ((i <<< ((1 : Int32) &&& 31)) + (1 : Int32)))] [(.int (x &&& (255 : Int32)))])) rfl (hb hby d24_42)
  refine oT st3 ?_
  show oE _ _ _ _ (T3.setTop (mkF m 45 #[.val (.ref da), .val (.int ((i <<< ((1 : Int32) &&& 31)) + (1 : Int32)))] [(.int 0), (.int (x &&& (255 : Int32)))]))
  refine oT (fun _ u => XS.ishl X3.here hx rfl (hb hby d24_45) rfl u) ?_
  show oE _ _ _ _ (T3.setTop (mkF m 46 #[.val (.ref da), .val (.int ((i <<< ((1 : Int32) &&& 31)) + (1 : Int32)))] [(.int ((x &&& (255 : Int32)) <<< ((0 : Int32) &&& 31)))]))
  refine oT (fun _ u => XS.aloadN X3.here hx rfl (hb hby d24_46) rfl rfl u) ?_
  refine oT (fun _ u => XS.iloadN X3.here hx rfl (hb hby d24_47) rfl u) ?_
  obtain ⟨cl4, Ar4, q4, S4, M4, H4, G4⟩ := id V_d
  have hin4 : ¬ (((i <<< ((1 : Int32) &&& 31)) + (1 : Int32)) < 0 ∨ cl4.slots.size ≤ (((i <<< ((1 : Int32) &&& 31)) + (1 : Int32))).toNatClampNeg) := inb_of S4 p2
  have hat4 : cl4.slots[(((i <<< ((1 : Int32) &&& 31)) + (1 : Int32))).toNatClampNeg]? = some (.int y) := Has.at H4 hin4 gg2
  refine oT (fun _ u => X3.baloadBytes hx (j := ((i <<< ((1 : Int32) &&& 31)) + (1 : Int32))) (v := (.int y)) (by rw [e3]; exact Ar4.1) (State.isArrayOf_alike hZ.alike Ar4.2.1) Ar4.2.2 hin4 hat4 (g := (mkF m 48 #[.val (.ref da), .val (.int ((i <<< ((1 : Int32) &&& 31)) + (1 : Int32)))] [(.int ((i <<< ((1 : Int32) &&& 31)) + (1 : Int32))), (.ref da), (.int ((x &&& (255 : Int32)) <<< ((0 : Int32) &&& 31)))])) rfl rfl (hb hby d24_48) _ u) ?_
  show oE _ _ _ _ (T3.setTop (mkF m 49 #[.val (.ref da), .val (.int ((i <<< ((1 : Int32) &&& 31)) + (1 : Int32)))] [(.int y), (.int ((x &&& (255 : Int32)) <<< ((0 : Int32) &&& 31)))]))
  refine oT (fun _ u => XS.sipush X3.here hx rfl (hb hby d24_49) u) ?_
  refine oT (fun _ u => XS.iand X3.here hx rfl (hb hby d24_52) rfl u) ?_
  obtain ⟨T5, X5, e5, st5⟩ := getS2 X3 hx hZ hown (host := "") (Or.inl (ow104 hw)) Via.refl e3 (HS.2.2.2.2.1.ext O0.2) (g := (mkF m 53 #[.val (.ref da), .val (.int ((i <<< ((1 : Int32) &&& 31)) + (1 : Int32)))] [(.int (y &&& (255 : Int32))), (.int ((x &&& (255 : Int32)) <<< ((0 : Int32) &&& 31)))])) rfl (hb hby d24_53)
  refine oT st5 ?_
  show oE _ _ _ _ (T5.setTop (mkF m 56 #[.val (.ref da), .val (.int ((i <<< ((1 : Int32) &&& 31)) + (1 : Int32)))] [(.int 8), (.int (y &&& (255 : Int32))), (.int ((x &&& (255 : Int32)) <<< ((0 : Int32) &&& 31)))]))
  refine oT (fun _ u => XS.ishl X5.here hx rfl (hb hby d24_56) rfl u) ?_
  show oE _ _ _ _ (T5.setTop (mkF m 57 #[.val (.ref da), .val (.int ((i <<< ((1 : Int32) &&& 31)) + (1 : Int32)))] [(.int ((y &&& (255 : Int32)) <<< ((8 : Int32) &&& 31))), (.int ((x &&& (255 : Int32)) <<< ((0 : Int32) &&& 31)))]))
  refine oT (fun _ u => XS.ior X5.here hx rfl (hb hby d24_57) rfl u) ?_
  refine oT (fun _ u => XS.i2c X5.here hx rfl (hb hby d24_58) rfl u) ?_
  refine own_leave X5 (v := some (.int (nar .char ((((x &&& (255 : Int32)) <<< ((0 : Int32) &&& 31)) ||| ((y &&& (255 : Int32)) <<< ((8 : Int32) &&& 31))).toUInt32.toUInt16.toUInt32.toInt32)))) (fun h => by rw [Bd.returns] at h; cases h) ?_ (by decide) (by decide) (fun fs hr => retN X5 hx (t := .char) Bd.returns (by simp) (hb hby d24_59) hr)
  show Q_rmGC Z da i cs_ rf_ kd z vs x y h0 n0 _ T5.heap _
  rw [e5]
  exact ⟨rfl, N0, rfl⟩
theorem d22_0 : decode jdk_52_method_3_code 0 = .ok (.iload_n 0, 1) := by decide +kernel
theorem d22_1 : decode jdk_52_method_3_code 1 = .ok (.ifCond .ge 11, 3) := by decide +kernel
theorem d22_12 : decode jdk_52_method_3_code 12 = .ok (.iload_n 0, 1) := by decide +kernel
theorem d22_13 : decode jdk_52_method_3_code 13 = .ok (.ldc 20, 2) := by decide +kernel
theorem d22_15 : decode jdk_52_method_3_code 15 = .ok (.if_icmp .lt 40, 3) := by decide +kernel
theorem d22_55 : decode jdk_52_method_3_code 55 = .ok (.iload_n 0, 1) := by decide +kernel
theorem d22_56 : decode jdk_52_method_3_code 56 = .ok (.iconst 1, 1) := by decide +kernel
theorem d22_57 : decode jdk_52_method_3_code 57 = .ok (.ishl, 1) := by decide +kernel
theorem d22_58 : decode jdk_52_method_3_code 58 = .ok (.ireturn, 1) := by decide +kernel
theorem pn_22 : plainName "java/lang/StringUTF16" = true := by first | (simp [plainName, overriddenIn]; done) | decide +kernel
theorem ef_rmNL1 (m : MethodId)   : entryFrame m #[(.int (1 : Int32))] 1 = mkF m 0 #[.val (.int (1 : Int32))] [] := by first | (simp [entryFrame, mkF, argsToLocals, Value.category]; done) | rfl | (rcases ref_cases hrf with rfl | ⟨q, rfl⟩ <;> rfl)
def Q_rmNL1 (Z : State)   (h0 : Heap) (n0 : Nat) (v : Option Value) (h : Heap) (L : List Loc) : Prop := v = some (.int (2 : Int32)) ∧ Fr n0 L ∧ h = h0
theorem rmNL1 (l : Launch) (Z : State) (a0 : Array Value) (hw : ∀ d ∈ tables_1, d.before a0 Z = true) (ws : List Jvm.Cond)   (h0 : Heap) (n0 : Nat) (O0 : Old Z n0 h0) :
    MetFree l oM9 (head1 (Jvm.Cond.code oM9 jdk_52_method_3_code 1 (some .int) :: ws) ({ frames := 0, cells := 0, slots := 0, locals := 0 } : Room)) (fun aq_ U => aq_ = #[(.int (1 : Int32))] ∧ Z.Warmed39 U.vm ∧ U.heap = h0) (fun _ _ _ _ _ => True) (fun _ U o U' => ∃ v L, o = .returned v ∧ Q_rmNL1 Z  h0 n0 v U'.heap L ∧ FrameEnd U o U' L 0 0) := by
  refine MetFree.of_bodySF (plainFor_of_name pn_22) hisR ?_
  intro p e s m args below meth c s₁ Bd hml0 hP hK
  obtain ⟨rfl, hZ, hh⟩ := hP
  have hx := Bd.exec
  have hby := Bd.bytes
  have hml : c.maxLocals = 1 := hml0
  have hown : s.vm.findClass "java/lang/StringUTF16" = some m.cls := findClass_of_methodNamed Bd.named
  have hnm := (name_of_methodNamed Bd.named Bd.method).1
  have X0 : Stand p l e ({ frames := 0, cells := 0, slots := 0, locals := 0 } : Room) s m #[(.int (1 : Int32))] below meth c s₁ [] 0 0 := Stand.of_body Bd
  have e0 : s₁.heap = h0 := by rw [← hh, Bd.state]; rfl
  have N0 := Fr.nil n0
  show oE p.tables e below (own_P s (Q_rmNL1 Z  h0 n0) 0 0) _
  refine own_cast (ef_rmNL1 m ) ?_
  show oE _ _ _ _ (s₁.setTop (mkF m 0 #[.val (.int 1)] []))
  refine oT (fun _ u => XS.iloadN X0.here hx rfl (hb hby d22_0) rfl u) ?_
  refine oT (fun _ u => XS.ifYes X0.here hx rfl (pc0 := 1) (pc' := 12) rfl (hb hby d22_1) rfl ((if0 _ _).trans (flt (by decide)).2.1) (by decide) (by decide) u) ?_
  show oE _ _ _ _ (s₁.setTop (mkF m 12 #[.val (.int 1)] []))
  refine oT (fun _ u => XS.iloadN X0.here hx rfl (hb hby d22_12) rfl u) ?_
  refine oT (X0.ldcInt hx hown (mvT hZ (ow98 hw)) (g := (mkF m 13 #[.val (.int 1)] [(.int 1)])) rfl (hb hby d22_13)) ?_
  show oE _ _ _ _ (s₁.setTop (mkF m 15 #[.val (.int 1)] [(.int 1073741823), (.int 1)]))
  refine oT (fun _ u => XS.icmpYes X0.here hx rfl (pc0 := 15) (pc' := 55) rfl (hb hby d22_15) rfl (tlt (by decide)).1 (by decide) (by decide) u) ?_
  show oE _ _ _ _ (s₁.setTop (mkF m 55 #[.val (.int 1)] []))
  refine oT (fun _ u => XS.iloadN X0.here hx rfl (hb hby d22_55) rfl u) ?_
  refine oT (fun _ u => XS.iconst X0.here hx rfl (hb hby d22_56) u) ?_
  refine oT (fun _ u => XS.ishl X0.here hx rfl (hb hby d22_57) rfl u) ?_
  show oE _ _ _ _ (s₁.setTop (mkF m 58 #[.val (.int 1)] [(.int 2)]))
  refine own_leave X0 (v := some (.int (2 : Int32))) (fun h => by rw [Bd.returns] at h; cases h) ?_ (by decide) (by decide) (fun fs hr => retOut X0 hx Bd.returns rfl (Or.inl ⟨rfl, Or.inl rfl, _, rfl⟩) (hb hby d22_58) hr)
  show Q_rmNL1 Z  h0 n0 _ s₁.heap _
  rw [e0]
  exact ⟨rfl, N0, rfl⟩
theorem d21_0 : decode jdk_52_method_2_code 0 = .ok (.iload_n 0, 1) := by decide +kernel
theorem d21_1 : decode jdk_52_method_2_code 1 = .ok (.invokestatic 11, 3) := by decide +kernel
theorem d21_4 : decode jdk_52_method_2_code 4 = .ok (.newarray .byte, 2) := by decide +kernel
theorem d21_6 : decode jdk_52_method_2_code 6 = .ok (.areturn, 1) := by decide +kernel
theorem pn_21 : plainName "java/lang/StringUTF16" = true := by first | (simp [plainName, overriddenIn]; done) | decide +kernel
theorem pd_2 : parseMethodDescriptor "(I)I" = some ⟨[.int], some .int⟩ := by decide +kernel
theorem ef_rmNF1 (m : MethodId)   : entryFrame m #[(.int (1 : Int32))] 1 = mkF m 0 #[.val (.int (1 : Int32))] [] := by first | (simp [entryFrame, mkF, argsToLocals, Value.category]; done) | rfl | (rcases ref_cases hrf with rfl | ⟨q, rfl⟩ <;> rfl)
def Q_rmNF1 (Z : State)   (h0 : Heap) (n0 : Nat) (v : Option Value) (h : Heap) (L : List Loc) : Prop := ∃ (b : Addr) (kb : ClassId), v = some (.ref b) ∧ n0 ≤ b ∧ h0.size ≤ b ∧ Fr n0 L ∧ Old Z n0 h ∧ Keep h0 h [] ∧ Arv Z h b kb .byte (2 : Int32) [(.int (0 : Int32)), (.int (0 : Int32))] (.int (0 : Int32))
theorem rmNF1 (l : Launch) (Z : State) (a0 : Array Value) (hw : ∀ d ∈ tables_1, d.before a0 Z = true) (ws : List Jvm.Cond)   (h0 : Heap) (n0 : Nat) (O0 : Old Z n0 h0) :
    MetFree l oM10 (head1 (Jvm.Cond.code oM10 jdk_52_method_2_code 1 (some (.array .byte)) :: ws) ({ frames := 1, cells := 1, slots := 2, locals := 12 } : Room)) (fun aq_ U => aq_ = #[(.int (1 : Int32))] ∧ Z.Warmed39 U.vm ∧ U.heap = h0) (fun _ _ _ _ _ => True) (fun _ U o U' => ∃ v L, o = .returned v ∧ Q_rmNF1 Z  h0 n0 v U'.heap L ∧ FrameEnd U o U' L 1 2) := by
  refine MetFree.of_bodySF (plainFor_of_name pn_21) hisR ?_
  intro p e s m args below meth c s₁ Bd hml0 hP hK
  obtain ⟨rfl, hZ, hh⟩ := hP
  have hx := Bd.exec
  have hby := Bd.bytes
  have hml : c.maxLocals = 1 := hml0
  have hown : s.vm.findClass "java/lang/StringUTF16" = some m.cls := findClass_of_methodNamed Bd.named
  have hnm := (name_of_methodNamed Bd.named Bd.method).1
  have X0 : Stand p l e ({ frames := 1, cells := 1, slots := 2, locals := 12 } : Room) s m #[(.int (1 : Int32))] below meth c s₁ [] 0 0 := Stand.of_body Bd
  have e0 : s₁.heap = h0 := by rw [← hh, Bd.state]; rfl
  have N0 := Fr.nil n0
  show oE p.tables e below (own_P s (Q_rmNF1 Z  h0 n0) 1 2) _
  refine own_cast (ef_rmNF1 m ) ?_
  have K0 := Keep.refl h0 []
  show oE _ _ _ _ (s₁.setTop (mkF m 0 #[.val (.int 1)] []))
  refine oT (fun _ u => XS.iloadN X0.here hx rfl (hb hby d21_0) rfl u) ?_
  obtain ⟨_, _, ⟨T1, L1, k1, n1⟩, -, X1, ⟨Lc1, hQ1, l1, y1, z1⟩, st1⟩ := Jvm.LawKit.callS X0 hx (y := oM9) hown (mvT hZ (ow95 hw)) (mvT hZ (ow96 hw)) (mvT hZ (ow49 hw)) (mvT hZ (ow97 hw)) (by decide) (backOf (W := 0) (rmNL1 l Z a0 hw []   h0 n0 O0 ) hZ (ow97 hw) (ow49 hw) (by decide) (by decide)) (g := (mkF m 1 #[.val (.int 1)] [(.int 1)])) rfl (by rw [hml]; rfl) (argsL := [(.int (1 : Int32))]) (rest := []) (lenOf pd_2 rfl) rfl (by show 2 * 0 + _ ≤ _; exact Nat.le_of_eq rfl) (hb hby d21_1) (fun _ _ => ⟨rfl, e0, (own_le rfl), (own_le rfl)⟩)
  dsimp only [Pt.U, Pt.locs, Pt.cells, Pt.slots] at X1 l1 y1 z1 st1 hQ1
  subst y1 z1
  obtain ⟨rfl, N1q, E1⟩ := hQ1
  have N1 := own_fr l1 N0 N1q
  refine oT st1 ?_
  show oE _ _ _ _ (T1.setTop (mkF m 4 #[.val (.int 1)] [(.int 2)]))
  obtain ⟨T2, h2, k2, X2, e2, E2, A2, st2⟩ := newP X1 hx hZ (aty := .byte) (ow25 hw) E1 (g := (mkF m 4 #[.val (.int 1)] [(.int 2)])) rfl (hb hby d21_4) rfl (by decide) (cap := 2) (by decide) (by decide) (by decide) (by decide)
  obtain ⟨b2, g2⟩ : ∃ z, z = h0.size := ⟨_, rfl⟩
  rw [← g2] at A2 st2
  have g_b2 : n0 ≤ b2 := Nat.le_trans (own_old_le O0) (Nat.le_of_eq g2.symm)
  have sz_b2 : h0.size ≤ b2 := Nat.le_trans K0.1 (Nat.le_of_eq g2.symm)
  refine oT st2 ?_
  have O2 := O0.ext E2
  have K2 := K0.ext E2
  have Vn2 : Arv Z h2 b2 k2 .byte (2 : Int32) [(.int (0 : Int32)), (.int (0 : Int32))] (.int (0 : Int32)) := (Arv.new A2 (by decide)).pad (pad_rep [] (.int (0 : Int32)) 2)
  show oE _ _ _ _ (T2.setTop (mkF m 6 #[.val (.int 1)] [(.ref b2)]))
  refine own_leave X2 (v := some (.ref b2)) (fun h => by rw [Bd.returns] at h; cases h) ?_ (by decide) (by decide) (fun fs hr => retOut X2 hx Bd.returns rfl (Or.inr (Or.inr (Or.inr (Or.inr ⟨rfl, rfl, rfl⟩)))) (hb hby d21_6) hr)
  show Q_rmNF1 Z  h0 n0 _ T2.heap _
  rw [e2]
  exact ⟨b2, k2, rfl, g_b2, sz_b2, N1, O2, K2, Vn2⟩
theorem d20_0 : decode jdk_52_method_14_code 0 = .ok (.iload_n 2, 1) := by decide +kernel
theorem d20_1 : decode jdk_52_method_14_code 1 = .ok (.invokestatic 107, 3) := by decide +kernel
theorem d20_4 : decode jdk_52_method_14_code 4 = .ok (.astore_n 3, 1) := by decide +kernel
theorem d20_5 : decode jdk_52_method_14_code 5 = .ok (.iconst 0, 1) := by decide +kernel
theorem d20_6 : decode jdk_52_method_14_code 6 = .ok (.istore 4, 2) := by decide +kernel
theorem d20_8 : decode jdk_52_method_14_code 8 = .ok (.iload 4, 2) := by decide +kernel
theorem d20_10 : decode jdk_52_method_14_code 10 = .ok (.iload_n 2, 1) := by decide +kernel
theorem d20_11 : decode jdk_52_method_14_code 11 = .ok (.if_icmp .ge 21, 3) := by decide +kernel
theorem d20_14 : decode jdk_52_method_14_code 14 = .ok (.aload_n 3, 1) := by decide +kernel
theorem d20_15 : decode jdk_52_method_14_code 15 = .ok (.iload 4, 2) := by decide +kernel
theorem d20_17 : decode jdk_52_method_14_code 17 = .ok (.aload_n 0, 1) := by decide +kernel
theorem d20_18 : decode jdk_52_method_14_code 18 = .ok (.iload_n 1, 1) := by decide +kernel
theorem d20_19 : decode jdk_52_method_14_code 19 = .ok (.caload, 1) := by decide +kernel
theorem d20_20 : decode jdk_52_method_14_code 20 = .ok (.invokestatic 111, 3) := by decide +kernel
theorem d20_23 : decode jdk_52_method_14_code 23 = .ok (.iinc 1 1, 3) := by decide +kernel
theorem d20_26 : decode jdk_52_method_14_code 26 = .ok (.iinc 4 1, 3) := by decide +kernel
theorem d20_29 : decode jdk_52_method_14_code 29 = .ok (.goto (-21), 3) := by decide +kernel
theorem d20_32 : decode jdk_52_method_14_code 32 = .ok (.aload_n 3, 1) := by decide +kernel
theorem d20_33 : decode jdk_52_method_14_code 33 = .ok (.areturn, 1) := by decide +kernel
theorem pn_20 : plainName "java/lang/StringUTF16" = true := by first | (simp [plainName, overriddenIn]; done) | decide +kernel
theorem pd_3 : parseMethodDescriptor "(I)[B" = some ⟨[.int], some (.array .byte)⟩ := by decide +kernel
theorem pd_4 : parseMethodDescriptor "([BII)V" = some ⟨[(.array .byte), .int, .int], none⟩ := by decide +kernel
theorem ef_rmTB1 (m : MethodId) (ca : Addr) (cs_ : Int32) (rf_ : Value) (kc : ClassId) (ce0 : Int32) : entryFrame m #[(.ref ca), (.int (0 : Int32)), (.int (1 : Int32))] 5 = mkF m 0 #[.val (.ref ca), .val (.int (0 : Int32)), .val (.int (1 : Int32)), .unset, .unset] [] := by first | (simp [entryFrame, mkF, argsToLocals, Value.category]; done) | rfl | (rcases ref_cases hrf with rfl | ⟨q, rfl⟩ <;> rfl)
def Q_rmTB1 (Z : State) (ca : Addr) (cs_ : Int32) (rf_ : Value) (kc : ClassId) (ce0 : Int32) (h0 : Heap) (n0 : Nat) (v : Option Value) (h : Heap) (L : List Loc) : Prop := ∃ (b : Addr) (kb : ClassId), v = some (.ref b) ∧ n0 ≤ b ∧ h0.size ≤ b ∧ Fr n0 L ∧ Old Z n0 h ∧ Keep h0 h [] ∧ Arv Z h b kb .byte (2 : Int32) [(.int ((ce0 >>> ((0 : Int32) &&& 31)).toInt8.toInt32)), (.int ((ce0 >>> ((8 : Int32) &&& 31)).toInt8.toInt32))] (.int (0 : Int32))
theorem rmTB1 (l : Launch) (Z : State) (a0 : Array Value) (hw : ∀ d ∈ tables_1, d.before a0 Z = true) (ws : List Jvm.Cond) (ca : Addr) (cs_ : Int32) (rf_ : Value) (kc : ClassId) (ce0 : Int32) (h0 : Heap) (n0 : Nat) (O0 : Old Z n0 h0) (HS : own_HS Z cs_ rf_) (V_c : Arv Z h0 ca kc .char (1 : Int32) [(.int ce0)] (.int (0 : Int32))) :
    MetFree l oM11 (head1 (Jvm.Cond.code oM11 jdk_52_method_14_code 5 (some (.array .byte)) :: ws) ({ frames := 2, cells := 1, slots := 2, locals := 40 } : Room)) (fun aq_ U => aq_ = #[(.ref ca), (.int (0 : Int32)), (.int (1 : Int32))] ∧ Z.Warmed39 U.vm ∧ U.heap = h0) (fun _ _ _ _ _ => True) (fun _ U o U' => ∃ v L, o = .returned v ∧ Q_rmTB1 Z ca cs_ rf_ kc ce0 h0 n0 v U'.heap L ∧ FrameEnd U o U' L 1 2) := by
  refine MetFree.of_bodySF (plainFor_of_name pn_20) hisR ?_
  intro p e s m args below meth c s₁ Bd hml0 hP hK
  obtain ⟨rfl, hZ, hh⟩ := hP
  have hx := Bd.exec
  have hby := Bd.bytes
  have hml : c.maxLocals = 5 := hml0
  have hown : s.vm.findClass "java/lang/StringUTF16" = some m.cls := findClass_of_methodNamed Bd.named
  have hnm := (name_of_methodNamed Bd.named Bd.method).1
  have X0 : Stand p l e ({ frames := 2, cells := 1, slots := 2, locals := 40 } : Room) s m #[(.ref ca), (.int (0 : Int32)), (.int (1 : Int32))] below meth c s₁ [] 0 0 := Stand.of_body Bd
  have e0 : s₁.heap = h0 := by rw [← hh, Bd.state]; rfl
  have N0 := Fr.nil n0
  show oE p.tables e below (own_P s (Q_rmTB1 Z ca cs_ rf_ kc ce0 h0 n0) 1 2) _
  refine own_cast (ef_rmTB1 m ca cs_ rf_ kc ce0) ?_
  have K0 := Keep.refl h0 []
  show oE _ _ _ _ (s₁.setTop (mkF m 0 #[.val (.ref ca), .val (.int 0), .val (.int 1), .unset, .unset] []))
  refine oT (fun _ u => XS.iloadN X0.here hx rfl (hb hby d20_0) rfl u) ?_
  obtain ⟨_, _, ⟨T1, L1, k1, n1⟩, -, X1, ⟨Lc1, hQ1, l1, y1, z1⟩, st1⟩ := Jvm.LawKit.callS X0 hx (y := oM10) hown (mvT hZ (ow92 hw)) (mvT hZ (ow93 hw)) (mvT hZ (ow49 hw)) (mvT hZ (ow94 hw)) (by decide) (backOf (W := 0) (rmNF1 l Z a0 hw []   h0 n0 O0 ) hZ (ow94 hw) (ow49 hw) (by decide) (by decide)) (g := (mkF m 1 #[.val (.ref ca), .val (.int 0), .val (.int 1), .unset, .unset] [(.int 1)])) rfl (by rw [hml]; rfl) (argsL := [(.int (1 : Int32))]) (rest := []) (lenOf pd_3 rfl) rfl (by show 2 * 0 + _ ≤ _; exact Nat.le_of_eq rfl) (hb hby d20_1) (fun _ _ => ⟨rfl, e0, (own_le rfl), (own_le rfl)⟩)
  dsimp only [Pt.U, Pt.locs, Pt.cells, Pt.slots] at X1 l1 y1 z1 st1 hQ1
  subst y1 z1
  obtain ⟨u1, ku1, rfl, g_u1, sq_u1, N1q, Oq1, Kq1, Vx1⟩ := hQ1
  have N1 := own_fr l1 N0 N1q
  have ne_ca_u1 : ca ≠ u1 := Nat.ne_of_lt (Nat.lt_of_lt_of_le V_c.lt sq_u1)
  have sz_u1 : h0.size ≤ u1 := Nat.le_trans K0.1 sq_u1
  have KK1 := K0.trans Kq1 all0
  refine oT st1 ?_
  show oE _ _ _ _ (T1.setTop (mkF m 4 #[.val (.ref ca), .val (.int 0), .val (.int 1), .unset, .unset] [(.ref u1)]))
  refine oT (fun _ u => XS.astoreN X1.here hx rfl (hb hby d20_4) rfl rfl (l' := #[.val (.ref ca), .val (.int (0 : Int32)), .val (.int (1 : Int32)), .val (.ref u1), .unset]) rfl u) ?_
  refine oT (fun _ u => XS.iconst X1.here hx rfl (hb hby d20_5) u) ?_
  refine oT (fun _ u => XS.istore X1.here hx rfl (hb hby d20_6) rfl (l' := #[.val (.ref ca), .val (.int (0 : Int32)), .val (.int (1 : Int32)), .val (.ref u1), .val (.int (0 : Int32))]) rfl u) ?_
  refine oT (fun _ u => XS.iload X1.here hx rfl (hb hby d20_8) rfl u) ?_
  refine oT (fun _ u => XS.iloadN X1.here hx rfl (hb hby d20_10) rfl u) ?_
  refine oT (fun _ u => XS.icmpNo X1.here hx rfl (hb hby d20_11) rfl (tlt (by decide)).2.1 u) ?_
  show oE _ _ _ _ (T1.setTop (mkF m 14 #[.val (.ref ca), .val (.int 0), .val (.int 1), .val (.ref u1), .val (.int 0)] []))
  refine oT (fun _ u => XS.aloadN X1.here hx rfl (hb hby d20_14) rfl rfl u) ?_
  refine oT (fun _ u => XS.iload X1.here hx rfl (hb hby d20_15) rfl u) ?_
  refine oT (fun _ u => XS.aloadN X1.here hx rfl (hb hby d20_17) rfl rfl u) ?_
  refine oT (fun _ u => XS.iloadN X1.here hx rfl (hb hby d20_18) rfl u) ?_
  obtain ⟨cl2, Ar2, q2, S2, M2, H2, G2⟩ := id (V_c.keep Kq1 nin0)
  have hin2 : ¬ ((0 : Int32) < 0 ∨ cl2.slots.size ≤ ((0 : Int32)).toNatClampNeg) := inb_of S2 ⟨by decide, by decide⟩
  have hat2 : cl2.slots[((0 : Int32)).toNatClampNeg]? = some (.int ce0) := Has.at H2 hin2 rfl
  refine oT (fun _ u => X1.caload hx (j := (0 : Int32)) (v := (.int ce0)) Ar2.1 (State.isArrayOf_alike hZ.alike Ar2.2.1) Ar2.2.2 hin2 hat2 (g := (mkF m 19 #[.val (.ref ca), .val (.int 0), .val (.int 1), .val (.ref u1), .val (.int 0)] [(.int 0), (.ref ca), (.int 0), (.ref u1)])) rfl rfl (hb hby d20_19) _ u) ?_
  show oE _ _ _ _ (T1.setTop (mkF m 20 #[.val (.ref ca), .val (.int 0), .val (.int 1), .val (.ref u1), .val (.int 0)] [(.int ce0), (.int 0), (.ref u1)]))
  obtain ⟨_, _, ⟨T3, L3, k3, n3⟩, -, X3, ⟨Lc3, hQ3, l3, y3, z3⟩, st3⟩ := Jvm.LawKit.callS X1 hx (y := oM7) hown (mvT hZ (ow99 hw)) (mvT hZ (ow100 hw)) (mvT hZ (ow49 hw)) (mvT hZ (ow101 hw)) (by decide) (backOf (W := 0) (rmPC l Z a0 hw [] u1 (0 : Int32) ce0 cs_ rf_ ku1 (2 : Int32) [(.int (0 : Int32)), (.int (0 : Int32))] T1.heap n0 Oq1 HS Vx1 g_u1 ⟨by decide, by decide⟩ ⟨by decide, by decide⟩ (by show _ < 2; decide) (by show _ < 2; decide)) hZ (ow101 hw) (ow49 hw) (by decide) (by decide)) (g := (mkF m 20 #[.val (.ref ca), .val (.int 0), .val (.int 1), .val (.ref u1), .val (.int 0)] [(.int ce0), (.int 0), (.ref u1)])) rfl (by rw [hml]; rfl) (argsL := [(.ref u1), (.int (0 : Int32)), (.int ce0)]) (rest := []) (lenOf pd_4 rfl) rfl (by show 2 * 0 + _ ≤ _; exact Nat.le_of_eq rfl) (hb hby d20_20) (fun _ _ => ⟨rfl, rfl, (own_le rfl), (own_le rfl)⟩)
  dsimp only [Pt.U, Pt.locs, Pt.cells, Pt.slots] at X3 l3 y3 z3 st3 hQ3
  subst y3 z3
  obtain ⟨rfl, N3q, Oq3, Kq3, Vz3⟩ := hQ3
  have N3 := own_fr l3 N1 N3q
  have KK3 := KK1.trans Kq3 (allS (Or.inr sz_u1) all0)
  have Vx3 : Arv Z T3.heap u1 ku1 .byte (2 : Int32) [(.int ((ce0 >>> ((0 : Int32) &&& 31)).toInt8.toInt32)), (.int ((ce0 >>> ((8 : Int32) &&& 31)).toInt8.toInt32))] (.int (0 : Int32)) := Vz3
  refine oT st3 ?_
  show oE _ _ _ _ (T3.setTop (mkF m 23 #[.val (.ref ca), .val (.int 0), .val (.int 1), .val (.ref u1), .val (.int 0)] []))
  refine oT (fun _ u => XS.iinc X3.here hx rfl (hb hby d20_23) rfl (l' := #[.val (.ref ca), .val (.int (1 : Int32)), .val (.int (1 : Int32)), .val (.ref u1), .val (.int (0 : Int32))]) rfl u) ?_
  show oE _ _ _ _ (T3.setTop (mkF m 26 #[.val (.ref ca), .val (.int 1), .val (.int 1), .val (.ref u1), .val (.int 0)] []))
  refine oT (fun _ u => XS.iinc X3.here hx rfl (hb hby d20_26) rfl (l' := #[.val (.ref ca), .val (.int (1 : Int32)), .val (.int (1 : Int32)), .val (.ref u1), .val (.int (1 : Int32))]) rfl u) ?_
  show oE _ _ _ _ (T3.setTop (mkF m 29 #[.val (.ref ca), .val (.int 1), .val (.int 1), .val (.ref u1), .val (.int 1)] []))
  refine oT (fun _ u => XS.goto X3.here hx rfl (pc0 := 29) (pc' := 8) rfl (hb hby d20_29) (by decide) (by decide) u) ?_
  refine oT (fun _ u => XS.iload X3.here hx rfl (hb hby d20_8) rfl u) ?_
  refine oT (fun _ u => XS.iloadN X3.here hx rfl (hb hby d20_10) rfl u) ?_
  refine oT (fun _ u => XS.icmpYes X3.here hx rfl (pc0 := 11) (pc' := 32) rfl (hb hby d20_11) rfl (flt (by decide)).2.1 (by decide) (by decide) u) ?_
  show oE _ _ _ _ (T3.setTop (mkF m 32 #[.val (.ref ca), .val (.int 1), .val (.int 1), .val (.ref u1), .val (.int 1)] []))
  refine oT (fun _ u => XS.aloadN X3.here hx rfl (hb hby d20_32) rfl rfl u) ?_
  refine own_leave X3 (v := some (.ref u1)) (fun h => by rw [Bd.returns] at h; cases h) ?_ (by decide) (by decide) (fun fs hr => retOut X3 hx Bd.returns rfl (Or.inr (Or.inr (Or.inr (Or.inr ⟨rfl, rfl, rfl⟩)))) (hb hby d20_33) hr)
  show Q_rmTB1 Z ca cs_ rf_ kc ce0 h0 n0 _ T3.heap _
  exact ⟨u1, ku1, rfl, g_u1, sz_u1, N3, Oq3, KK3, Vx3⟩
theorem ef_rmNL2 (m : MethodId)   : entryFrame m #[(.int (2 : Int32))] 1 = mkF m 0 #[.val (.int (2 : Int32))] [] := by first | (simp [entryFrame, mkF, argsToLocals, Value.category]; done) | rfl | (rcases ref_cases hrf with rfl | ⟨q, rfl⟩ <;> rfl)
def Q_rmNL2 (Z : State)   (h0 : Heap) (n0 : Nat) (v : Option Value) (h : Heap) (L : List Loc) : Prop := v = some (.int (4 : Int32)) ∧ Fr n0 L ∧ h = h0
theorem rmNL2 (l : Launch) (Z : State) (a0 : Array Value) (hw : ∀ d ∈ tables_1, d.before a0 Z = true) (ws : List Jvm.Cond)   (h0 : Heap) (n0 : Nat) (O0 : Old Z n0 h0) :
    MetFree l oM9 (head1 (Jvm.Cond.code oM9 jdk_52_method_3_code 1 (some .int) :: ws) ({ frames := 0, cells := 0, slots := 0, locals := 0 } : Room)) (fun aq_ U => aq_ = #[(.int (2 : Int32))] ∧ Z.Warmed39 U.vm ∧ U.heap = h0) (fun _ _ _ _ _ => True) (fun _ U o U' => ∃ v L, o = .returned v ∧ Q_rmNL2 Z  h0 n0 v U'.heap L ∧ FrameEnd U o U' L 0 0) := by
  refine MetFree.of_bodySF (plainFor_of_name pn_22) hisR ?_
  intro p e s m args below meth c s₁ Bd hml0 hP hK
  obtain ⟨rfl, hZ, hh⟩ := hP
  have hx := Bd.exec
  have hby := Bd.bytes
  have hml : c.maxLocals = 1 := hml0
  have hown : s.vm.findClass "java/lang/StringUTF16" = some m.cls := findClass_of_methodNamed Bd.named
  have hnm := (name_of_methodNamed Bd.named Bd.method).1
  have X0 : Stand p l e ({ frames := 0, cells := 0, slots := 0, locals := 0 } : Room) s m #[(.int (2 : Int32))] below meth c s₁ [] 0 0 := Stand.of_body Bd
  have e0 : s₁.heap = h0 := by rw [← hh, Bd.state]; rfl
  have N0 := Fr.nil n0
  show oE p.tables e below (own_P s (Q_rmNL2 Z  h0 n0) 0 0) _
  refine own_cast (ef_rmNL2 m ) ?_
  show oE _ _ _ _ (s₁.setTop (mkF m 0 #[.val (.int 2)] []))
  refine oT (fun _ u => XS.iloadN X0.here hx rfl (hb hby d22_0) rfl u) ?_
  refine oT (fun _ u => XS.ifYes X0.here hx rfl (pc0 := 1) (pc' := 12) rfl (hb hby d22_1) rfl ((if0 _ _).trans (flt (by decide)).2.1) (by decide) (by decide) u) ?_
  show oE _ _ _ _ (s₁.setTop (mkF m 12 #[.val (.int 2)] []))
  refine oT (fun _ u => XS.iloadN X0.here hx rfl (hb hby d22_12) rfl u) ?_
  refine oT (X0.ldcInt hx hown (mvT hZ (ow98 hw)) (g := (mkF m 13 #[.val (.int 2)] [(.int 2)])) rfl (hb hby d22_13)) ?_
  show oE _ _ _ _ (s₁.setTop (mkF m 15 #[.val (.int 2)] [(.int 1073741823), (.int 2)]))
  refine oT (fun _ u => XS.icmpYes X0.here hx rfl (pc0 := 15) (pc' := 55) rfl (hb hby d22_15) rfl (tlt (by decide)).1 (by decide) (by decide) u) ?_
  show oE _ _ _ _ (s₁.setTop (mkF m 55 #[.val (.int 2)] []))
  refine oT (fun _ u => XS.iloadN X0.here hx rfl (hb hby d22_55) rfl u) ?_
  refine oT (fun _ u => XS.iconst X0.here hx rfl (hb hby d22_56) u) ?_
  refine oT (fun _ u => XS.ishl X0.here hx rfl (hb hby d22_57) rfl u) ?_
  show oE _ _ _ _ (s₁.setTop (mkF m 58 #[.val (.int 2)] [(.int 4)]))
  refine own_leave X0 (v := some (.int (4 : Int32))) (fun h => by rw [Bd.returns] at h; cases h) ?_ (by decide) (by decide) (fun fs hr => retOut X0 hx Bd.returns rfl (Or.inl ⟨rfl, Or.inl rfl, _, rfl⟩) (hb hby d22_58) hr)
  show Q_rmNL2 Z  h0 n0 _ s₁.heap _
  rw [e0]
  exact ⟨rfl, N0, rfl⟩
theorem ef_rmNF2 (m : MethodId)   : entryFrame m #[(.int (2 : Int32))] 1 = mkF m 0 #[.val (.int (2 : Int32))] [] := by first | (simp [entryFrame, mkF, argsToLocals, Value.category]; done) | rfl | (rcases ref_cases hrf with rfl | ⟨q, rfl⟩ <;> rfl)
def Q_rmNF2 (Z : State)   (h0 : Heap) (n0 : Nat) (v : Option Value) (h : Heap) (L : List Loc) : Prop := ∃ (b : Addr) (kb : ClassId), v = some (.ref b) ∧ n0 ≤ b ∧ h0.size ≤ b ∧ Fr n0 L ∧ Old Z n0 h ∧ Keep h0 h [] ∧ Arv Z h b kb .byte (4 : Int32) [(.int (0 : Int32)), (.int (0 : Int32)), (.int (0 : Int32)), (.int (0 : Int32))] (.int (0 : Int32))
theorem rmNF2 (l : Launch) (Z : State) (a0 : Array Value) (hw : ∀ d ∈ tables_1, d.before a0 Z = true) (ws : List Jvm.Cond)   (h0 : Heap) (n0 : Nat) (O0 : Old Z n0 h0) :
    MetFree l oM10 (head1 (Jvm.Cond.code oM10 jdk_52_method_2_code 1 (some (.array .byte)) :: ws) ({ frames := 1, cells := 1, slots := 4, locals := 12 } : Room)) (fun aq_ U => aq_ = #[(.int (2 : Int32))] ∧ Z.Warmed39 U.vm ∧ U.heap = h0) (fun _ _ _ _ _ => True) (fun _ U o U' => ∃ v L, o = .returned v ∧ Q_rmNF2 Z  h0 n0 v U'.heap L ∧ FrameEnd U o U' L 1 4) := by
  refine MetFree.of_bodySF (plainFor_of_name pn_21) hisR ?_
  intro p e s m args below meth c s₁ Bd hml0 hP hK
  obtain ⟨rfl, hZ, hh⟩ := hP
  have hx := Bd.exec
  have hby := Bd.bytes
  have hml : c.maxLocals = 1 := hml0
  have hown : s.vm.findClass "java/lang/StringUTF16" = some m.cls := findClass_of_methodNamed Bd.named
  have hnm := (name_of_methodNamed Bd.named Bd.method).1
  have X0 : Stand p l e ({ frames := 1, cells := 1, slots := 4, locals := 12 } : Room) s m #[(.int (2 : Int32))] below meth c s₁ [] 0 0 := Stand.of_body Bd
  have e0 : s₁.heap = h0 := by rw [← hh, Bd.state]; rfl
  have N0 := Fr.nil n0
  show oE p.tables e below (own_P s (Q_rmNF2 Z  h0 n0) 1 4) _
  refine own_cast (ef_rmNF2 m ) ?_
  have K0 := Keep.refl h0 []
  show oE _ _ _ _ (s₁.setTop (mkF m 0 #[.val (.int 2)] []))
  refine oT (fun _ u => XS.iloadN X0.here hx rfl (hb hby d21_0) rfl u) ?_
  obtain ⟨_, _, ⟨T1, L1, k1, n1⟩, -, X1, ⟨Lc1, hQ1, l1, y1, z1⟩, st1⟩ := Jvm.LawKit.callS X0 hx (y := oM9) hown (mvT hZ (ow95 hw)) (mvT hZ (ow96 hw)) (mvT hZ (ow49 hw)) (mvT hZ (ow97 hw)) (by decide) (backOf (W := 0) (rmNL2 l Z a0 hw []   h0 n0 O0 ) hZ (ow97 hw) (ow49 hw) (by decide) (by decide)) (g := (mkF m 1 #[.val (.int 2)] [(.int 2)])) rfl (by rw [hml]; rfl) (argsL := [(.int (2 : Int32))]) (rest := []) (lenOf pd_2 rfl) rfl (by show 2 * 0 + _ ≤ _; exact Nat.le_of_eq rfl) (hb hby d21_1) (fun _ _ => ⟨rfl, e0, (own_le rfl), (own_le rfl)⟩)
  dsimp only [Pt.U, Pt.locs, Pt.cells, Pt.slots] at X1 l1 y1 z1 st1 hQ1
  subst y1 z1
  obtain ⟨rfl, N1q, E1⟩ := hQ1
  have N1 := own_fr l1 N0 N1q
  refine oT st1 ?_
  show oE _ _ _ _ (T1.setTop (mkF m 4 #[.val (.int 2)] [(.int 4)]))
  obtain ⟨T2, h2, k2, X2, e2, E2, A2, st2⟩ := newP X1 hx hZ (aty := .byte) (ow25 hw) E1 (g := (mkF m 4 #[.val (.int 2)] [(.int 4)])) rfl (hb hby d21_4) rfl (by decide) (cap := 4) (by decide) (by decide) (by decide) (by decide)
  obtain ⟨b2, g2⟩ : ∃ z, z = h0.size := ⟨_, rfl⟩
  rw [← g2] at A2 st2
  have g_b2 : n0 ≤ b2 := Nat.le_trans (own_old_le O0) (Nat.le_of_eq g2.symm)
  have sz_b2 : h0.size ≤ b2 := Nat.le_trans K0.1 (Nat.le_of_eq g2.symm)
  refine oT st2 ?_
  have O2 := O0.ext E2
  have K2 := K0.ext E2
  have Vn2 : Arv Z h2 b2 k2 .byte (4 : Int32) [(.int (0 : Int32)), (.int (0 : Int32)), (.int (0 : Int32)), (.int (0 : Int32))] (.int (0 : Int32)) := (Arv.new A2 (by decide)).pad (pad_rep [] (.int (0 : Int32)) 4)
  show oE _ _ _ _ (T2.setTop (mkF m 6 #[.val (.int 2)] [(.ref b2)]))
  refine own_leave X2 (v := some (.ref b2)) (fun h => by rw [Bd.returns] at h; cases h) ?_ (by decide) (by decide) (fun fs hr => retOut X2 hx Bd.returns rfl (Or.inr (Or.inr (Or.inr (Or.inr ⟨rfl, rfl, rfl⟩)))) (hb hby d21_6) hr)
  show Q_rmNF2 Z  h0 n0 _ T2.heap _
  rw [e2]
  exact ⟨b2, k2, rfl, g_b2, sz_b2, N1, O2, K2, Vn2⟩
theorem ef_rmTB2 (m : MethodId) (ca : Addr) (cs_ : Int32) (rf_ : Value) (kc : ClassId) (ce0 : Int32) (ce1 : Int32) : entryFrame m #[(.ref ca), (.int (0 : Int32)), (.int (2 : Int32))] 5 = mkF m 0 #[.val (.ref ca), .val (.int (0 : Int32)), .val (.int (2 : Int32)), .unset, .unset] [] := by first | (simp [entryFrame, mkF, argsToLocals, Value.category]; done) | rfl | (rcases ref_cases hrf with rfl | ⟨q, rfl⟩ <;> rfl)
def Q_rmTB2 (Z : State) (ca : Addr) (cs_ : Int32) (rf_ : Value) (kc : ClassId) (ce0 : Int32) (ce1 : Int32) (h0 : Heap) (n0 : Nat) (v : Option Value) (h : Heap) (L : List Loc) : Prop := ∃ (b : Addr) (kb : ClassId), v = some (.ref b) ∧ n0 ≤ b ∧ h0.size ≤ b ∧ Fr n0 L ∧ Old Z n0 h ∧ Keep h0 h [] ∧ Arv Z h b kb .byte (4 : Int32) [(.int ((ce0 >>> ((0 : Int32) &&& 31)).toInt8.toInt32)), (.int ((ce0 >>> ((8 : Int32) &&& 31)).toInt8.toInt32)), (.int ((ce1 >>> ((0 : Int32) &&& 31)).toInt8.toInt32)), (.int ((ce1 >>> ((8 : Int32) &&& 31)).toInt8.toInt32))] (.int (0 : Int32))
theorem rmTB2 (l : Launch) (Z : State) (a0 : Array Value) (hw : ∀ d ∈ tables_1, d.before a0 Z = true) (ws : List Jvm.Cond) (ca : Addr) (cs_ : Int32) (rf_ : Value) (kc : ClassId) (ce0 : Int32) (ce1 : Int32) (h0 : Heap) (n0 : Nat) (O0 : Old Z n0 h0) (HS : own_HS Z cs_ rf_) (V_c : Arv Z h0 ca kc .char (2 : Int32) [(.int ce0), (.int ce1)] (.int (0 : Int32))) :
    MetFree l oM11 (head1 (Jvm.Cond.code oM11 jdk_52_method_14_code 5 (some (.array .byte)) :: ws) ({ frames := 2, cells := 1, slots := 4, locals := 40 } : Room)) (fun aq_ U => aq_ = #[(.ref ca), (.int (0 : Int32)), (.int (2 : Int32))] ∧ Z.Warmed39 U.vm ∧ U.heap = h0) (fun _ _ _ _ _ => True) (fun _ U o U' => ∃ v L, o = .returned v ∧ Q_rmTB2 Z ca cs_ rf_ kc ce0 ce1 h0 n0 v U'.heap L ∧ FrameEnd U o U' L 1 4) := by
  refine MetFree.of_bodySF (plainFor_of_name pn_20) hisR ?_
  intro p e s m args below meth c s₁ Bd hml0 hP hK
  obtain ⟨rfl, hZ, hh⟩ := hP
  have hx := Bd.exec
  have hby := Bd.bytes
  have hml : c.maxLocals = 5 := hml0
  have hown : s.vm.findClass "java/lang/StringUTF16" = some m.cls := findClass_of_methodNamed Bd.named
  have hnm := (name_of_methodNamed Bd.named Bd.method).1
  have X0 : Stand p l e ({ frames := 2, cells := 1, slots := 4, locals := 40 } : Room) s m #[(.ref ca), (.int (0 : Int32)), (.int (2 : Int32))] below meth c s₁ [] 0 0 := Stand.of_body Bd
  have e0 : s₁.heap = h0 := by rw [← hh, Bd.state]; rfl
  have N0 := Fr.nil n0
  show oE p.tables e below (own_P s (Q_rmTB2 Z ca cs_ rf_ kc ce0 ce1 h0 n0) 1 4) _
  refine own_cast (ef_rmTB2 m ca cs_ rf_ kc ce0 ce1) ?_
  have K0 := Keep.refl h0 []
  show oE _ _ _ _ (s₁.setTop (mkF m 0 #[.val (.ref ca), .val (.int 0), .val (.int 2), .unset, .unset] []))
  refine oT (fun _ u => XS.iloadN X0.here hx rfl (hb hby d20_0) rfl u) ?_
  obtain ⟨_, _, ⟨T1, L1, k1, n1⟩, -, X1, ⟨Lc1, hQ1, l1, y1, z1⟩, st1⟩ := Jvm.LawKit.callS X0 hx (y := oM10) hown (mvT hZ (ow92 hw)) (mvT hZ (ow93 hw)) (mvT hZ (ow49 hw)) (mvT hZ (ow94 hw)) (by decide) (backOf (W := 0) (rmNF2 l Z a0 hw []   h0 n0 O0 ) hZ (ow94 hw) (ow49 hw) (by decide) (by decide)) (g := (mkF m 1 #[.val (.ref ca), .val (.int 0), .val (.int 2), .unset, .unset] [(.int 2)])) rfl (by rw [hml]; rfl) (argsL := [(.int (2 : Int32))]) (rest := []) (lenOf pd_3 rfl) rfl (by show 2 * 0 + _ ≤ _; exact Nat.le_of_eq rfl) (hb hby d20_1) (fun _ _ => ⟨rfl, e0, (own_le rfl), (own_le rfl)⟩)
  dsimp only [Pt.U, Pt.locs, Pt.cells, Pt.slots] at X1 l1 y1 z1 st1 hQ1
  subst y1 z1
  obtain ⟨u1, ku1, rfl, g_u1, sq_u1, N1q, Oq1, Kq1, Vx1⟩ := hQ1
  have N1 := own_fr l1 N0 N1q
  have ne_ca_u1 : ca ≠ u1 := Nat.ne_of_lt (Nat.lt_of_lt_of_le V_c.lt sq_u1)
  have sz_u1 : h0.size ≤ u1 := Nat.le_trans K0.1 sq_u1
  have KK1 := K0.trans Kq1 all0
  refine oT st1 ?_
  show oE _ _ _ _ (T1.setTop (mkF m 4 #[.val (.ref ca), .val (.int 0), .val (.int 2), .unset, .unset] [(.ref u1)]))
  refine oT (fun _ u => XS.astoreN X1.here hx rfl (hb hby d20_4) rfl rfl (l' := #[.val (.ref ca), .val (.int (0 : Int32)), .val (.int (2 : Int32)), .val (.ref u1), .unset]) rfl u) ?_
  refine oT (fun _ u => XS.iconst X1.here hx rfl (hb hby d20_5) u) ?_
  refine oT (fun _ u => XS.istore X1.here hx rfl (hb hby d20_6) rfl (l' := #[.val (.ref ca), .val (.int (0 : Int32)), .val (.int (2 : Int32)), .val (.ref u1), .val (.int (0 : Int32))]) rfl u) ?_
  refine oT (fun _ u => XS.iload X1.here hx rfl (hb hby d20_8) rfl u) ?_
  refine oT (fun _ u => XS.iloadN X1.here hx rfl (hb hby d20_10) rfl u) ?_
  refine oT (fun _ u => XS.icmpNo X1.here hx rfl (hb hby d20_11) rfl (tlt (by decide)).2.1 u) ?_
  show oE _ _ _ _ (T1.setTop (mkF m 14 #[.val (.ref ca), .val (.int 0), .val (.int 2), .val (.ref u1), .val (.int 0)] []))
  refine oT (fun _ u => XS.aloadN X1.here hx rfl (hb hby d20_14) rfl rfl u) ?_
  refine oT (fun _ u => XS.iload X1.here hx rfl (hb hby d20_15) rfl u) ?_
  refine oT (fun _ u => XS.aloadN X1.here hx rfl (hb hby d20_17) rfl rfl u) ?_
  refine oT (fun _ u => XS.iloadN X1.here hx rfl (hb hby d20_18) rfl u) ?_
  obtain ⟨cl2, Ar2, q2, S2, M2, H2, G2⟩ := id (V_c.keep Kq1 nin0)
  have hin2 : ¬ ((0 : Int32) < 0 ∨ cl2.slots.size ≤ ((0 : Int32)).toNatClampNeg) := inb_of S2 ⟨by decide, by decide⟩
  have hat2 : cl2.slots[((0 : Int32)).toNatClampNeg]? = some (.int ce0) := Has.at H2 hin2 rfl
  refine oT (fun _ u => X1.caload hx (j := (0 : Int32)) (v := (.int ce0)) Ar2.1 (State.isArrayOf_alike hZ.alike Ar2.2.1) Ar2.2.2 hin2 hat2 (g := (mkF m 19 #[.val (.ref ca), .val (.int 0), .val (.int 2), .val (.ref u1), .val (.int 0)] [(.int 0), (.ref ca), (.int 0), (.ref u1)])) rfl rfl (hb hby d20_19) _ u) ?_
  show oE _ _ _ _ (T1.setTop (mkF m 20 #[.val (.ref ca), .val (.int 0), .val (.int 2), .val (.ref u1), .val (.int 0)] [(.int ce0), (.int 0), (.ref u1)]))
  obtain ⟨_, _, ⟨T3, L3, k3, n3⟩, -, X3, ⟨Lc3, hQ3, l3, y3, z3⟩, st3⟩ := Jvm.LawKit.callS X1 hx (y := oM7) hown (mvT hZ (ow99 hw)) (mvT hZ (ow100 hw)) (mvT hZ (ow49 hw)) (mvT hZ (ow101 hw)) (by decide) (backOf (W := 0) (rmPC l Z a0 hw [] u1 (0 : Int32) ce0 cs_ rf_ ku1 (4 : Int32) [(.int (0 : Int32)), (.int (0 : Int32)), (.int (0 : Int32)), (.int (0 : Int32))] T1.heap n0 Oq1 HS Vx1 g_u1 ⟨by decide, by decide⟩ ⟨by decide, by decide⟩ (by show _ < 4; decide) (by show _ < 4; decide)) hZ (ow101 hw) (ow49 hw) (by decide) (by decide)) (g := (mkF m 20 #[.val (.ref ca), .val (.int 0), .val (.int 2), .val (.ref u1), .val (.int 0)] [(.int ce0), (.int 0), (.ref u1)])) rfl (by rw [hml]; rfl) (argsL := [(.ref u1), (.int (0 : Int32)), (.int ce0)]) (rest := []) (lenOf pd_4 rfl) rfl (by show 2 * 0 + _ ≤ _; exact Nat.le_of_eq rfl) (hb hby d20_20) (fun _ _ => ⟨rfl, rfl, (own_le rfl), (own_le rfl)⟩)
  dsimp only [Pt.U, Pt.locs, Pt.cells, Pt.slots] at X3 l3 y3 z3 st3 hQ3
  subst y3 z3
  obtain ⟨rfl, N3q, Oq3, Kq3, Vz3⟩ := hQ3
  have N3 := own_fr l3 N1 N3q
  have KK3 := KK1.trans Kq3 (allS (Or.inr sz_u1) all0)
  have Vx3 : Arv Z T3.heap u1 ku1 .byte (4 : Int32) [(.int ((ce0 >>> ((0 : Int32) &&& 31)).toInt8.toInt32)), (.int ((ce0 >>> ((8 : Int32) &&& 31)).toInt8.toInt32)), (.int (0 : Int32)), (.int (0 : Int32))] (.int (0 : Int32)) := Vz3
  refine oT st3 ?_
  show oE _ _ _ _ (T3.setTop (mkF m 23 #[.val (.ref ca), .val (.int 0), .val (.int 2), .val (.ref u1), .val (.int 0)] []))
  refine oT (fun _ u => XS.iinc X3.here hx rfl (hb hby d20_23) rfl (l' := #[.val (.ref ca), .val (.int (1 : Int32)), .val (.int (2 : Int32)), .val (.ref u1), .val (.int (0 : Int32))]) rfl u) ?_
  show oE _ _ _ _ (T3.setTop (mkF m 26 #[.val (.ref ca), .val (.int 1), .val (.int 2), .val (.ref u1), .val (.int 0)] []))
  refine oT (fun _ u => XS.iinc X3.here hx rfl (hb hby d20_26) rfl (l' := #[.val (.ref ca), .val (.int (1 : Int32)), .val (.int (2 : Int32)), .val (.ref u1), .val (.int (1 : Int32))]) rfl u) ?_
  show oE _ _ _ _ (T3.setTop (mkF m 29 #[.val (.ref ca), .val (.int 1), .val (.int 2), .val (.ref u1), .val (.int 1)] []))
  refine oT (fun _ u => XS.goto X3.here hx rfl (pc0 := 29) (pc' := 8) rfl (hb hby d20_29) (by decide) (by decide) u) ?_
  refine oT (fun _ u => XS.iload X3.here hx rfl (hb hby d20_8) rfl u) ?_
  refine oT (fun _ u => XS.iloadN X3.here hx rfl (hb hby d20_10) rfl u) ?_
  refine oT (fun _ u => XS.icmpNo X3.here hx rfl (hb hby d20_11) rfl (tlt (by decide)).2.1 u) ?_
  show oE _ _ _ _ (T3.setTop (mkF m 14 #[.val (.ref ca), .val (.int 1), .val (.int 2), .val (.ref u1), .val (.int 1)] []))
  refine oT (fun _ u => XS.aloadN X3.here hx rfl (hb hby d20_14) rfl rfl u) ?_
  refine oT (fun _ u => XS.iload X3.here hx rfl (hb hby d20_15) rfl u) ?_
  refine oT (fun _ u => XS.aloadN X3.here hx rfl (hb hby d20_17) rfl rfl u) ?_
  refine oT (fun _ u => XS.iloadN X3.here hx rfl (hb hby d20_18) rfl u) ?_
  obtain ⟨cl4, Ar4, q4, S4, M4, H4, G4⟩ := id ((V_c.keep Kq1 nin0).keep Kq3 (ninS ne_ca_u1 nin0))
  have hin4 : ¬ ((1 : Int32) < 0 ∨ cl4.slots.size ≤ ((1 : Int32)).toNatClampNeg) := inb_of S4 ⟨by decide, by decide⟩
  have hat4 : cl4.slots[((1 : Int32)).toNatClampNeg]? = some (.int ce1) := Has.at H4 hin4 rfl
  refine oT (fun _ u => X3.caload hx (j := (1 : Int32)) (v := (.int ce1)) Ar4.1 (State.isArrayOf_alike hZ.alike Ar4.2.1) Ar4.2.2 hin4 hat4 (g := (mkF m 19 #[.val (.ref ca), .val (.int 1), .val (.int 2), .val (.ref u1), .val (.int 1)] [(.int 1), (.ref ca), (.int 1), (.ref u1)])) rfl rfl (hb hby d20_19) _ u) ?_
  show oE _ _ _ _ (T3.setTop (mkF m 20 #[.val (.ref ca), .val (.int 1), .val (.int 2), .val (.ref u1), .val (.int 1)] [(.int ce1), (.int 1), (.ref u1)]))
  obtain ⟨_, _, ⟨T5, L5, k5, n5⟩, -, X5, ⟨Lc5, hQ5, l5, y5, z5⟩, st5⟩ := Jvm.LawKit.callS X3 hx (y := oM7) hown (mvT hZ (ow99 hw)) (mvT hZ (ow100 hw)) (mvT hZ (ow49 hw)) (mvT hZ (ow101 hw)) (by decide) (backOf (W := 0) (rmPC l Z a0 hw [] u1 (1 : Int32) ce1 cs_ rf_ ku1 (4 : Int32) [(.int ((ce0 >>> ((0 : Int32) &&& 31)).toInt8.toInt32)), (.int ((ce0 >>> ((8 : Int32) &&& 31)).toInt8.toInt32)), (.int (0 : Int32)), (.int (0 : Int32))] T3.heap n0 Oq3 HS Vx3 g_u1 ⟨by decide, by decide⟩ ⟨by decide, by decide⟩ (by show _ < 4; decide) (by show _ < 4; decide)) hZ (ow101 hw) (ow49 hw) (by decide) (by decide)) (g := (mkF m 20 #[.val (.ref ca), .val (.int 1), .val (.int 2), .val (.ref u1), .val (.int 1)] [(.int ce1), (.int 1), (.ref u1)])) rfl (by rw [hml]; rfl) (argsL := [(.ref u1), (.int (1 : Int32)), (.int ce1)]) (rest := []) (lenOf pd_4 rfl) rfl (by show 2 * 0 + _ ≤ _; exact Nat.le_of_eq rfl) (hb hby d20_20) (fun _ _ => ⟨rfl, rfl, (own_le rfl), (own_le rfl)⟩)
  dsimp only [Pt.U, Pt.locs, Pt.cells, Pt.slots] at X5 l5 y5 z5 st5 hQ5
  subst y5 z5
  obtain ⟨rfl, N5q, Oq5, Kq5, Vz5⟩ := hQ5
  have N5 := own_fr l5 N3 N5q
  have KK5 := KK3.trans Kq5 (allS (Or.inr sz_u1) all0)
  have Vx5 : Arv Z T5.heap u1 ku1 .byte (4 : Int32) [(.int ((ce0 >>> ((0 : Int32) &&& 31)).toInt8.toInt32)), (.int ((ce0 >>> ((8 : Int32) &&& 31)).toInt8.toInt32)), (.int ((ce1 >>> ((0 : Int32) &&& 31)).toInt8.toInt32)), (.int ((ce1 >>> ((8 : Int32) &&& 31)).toInt8.toInt32))] (.int (0 : Int32)) := Vz5
  refine oT st5 ?_
  show oE _ _ _ _ (T5.setTop (mkF m 23 #[.val (.ref ca), .val (.int 1), .val (.int 2), .val (.ref u1), .val (.int 1)] []))
  refine oT (fun _ u => XS.iinc X5.here hx rfl (hb hby d20_23) rfl (l' := #[.val (.ref ca), .val (.int (2 : Int32)), .val (.int (2 : Int32)), .val (.ref u1), .val (.int (1 : Int32))]) rfl u) ?_
  show oE _ _ _ _ (T5.setTop (mkF m 26 #[.val (.ref ca), .val (.int 2), .val (.int 2), .val (.ref u1), .val (.int 1)] []))
  refine oT (fun _ u => XS.iinc X5.here hx rfl (hb hby d20_26) rfl (l' := #[.val (.ref ca), .val (.int (2 : Int32)), .val (.int (2 : Int32)), .val (.ref u1), .val (.int (2 : Int32))]) rfl u) ?_
  show oE _ _ _ _ (T5.setTop (mkF m 29 #[.val (.ref ca), .val (.int 2), .val (.int 2), .val (.ref u1), .val (.int 2)] []))
  refine oT (fun _ u => XS.goto X5.here hx rfl (pc0 := 29) (pc' := 8) rfl (hb hby d20_29) (by decide) (by decide) u) ?_
  refine oT (fun _ u => XS.iload X5.here hx rfl (hb hby d20_8) rfl u) ?_
  refine oT (fun _ u => XS.iloadN X5.here hx rfl (hb hby d20_10) rfl u) ?_
  refine oT (fun _ u => XS.icmpYes X5.here hx rfl (pc0 := 11) (pc' := 32) rfl (hb hby d20_11) rfl (flt (by decide)).2.1 (by decide) (by decide) u) ?_
  show oE _ _ _ _ (T5.setTop (mkF m 32 #[.val (.ref ca), .val (.int 2), .val (.int 2), .val (.ref u1), .val (.int 2)] []))
  refine oT (fun _ u => XS.aloadN X5.here hx rfl (hb hby d20_32) rfl rfl u) ?_
  refine own_leave X5 (v := some (.ref u1)) (fun h => by rw [Bd.returns] at h; cases h) ?_ (by decide) (by decide) (fun fs hr => retOut X5 hx Bd.returns rfl (Or.inr (Or.inr (Or.inr (Or.inr ⟨rfl, rfl, rfl⟩)))) (hb hby d20_33) hr)
  show Q_rmTB2 Z ca cs_ rf_ kc ce0 ce1 h0 n0 _ T5.heap _
  exact ⟨u1, ku1, rfl, g_u1, sz_u1, N5, Oq5, KK5, Vx5⟩
theorem ef_rmNL3 (m : MethodId)   : entryFrame m #[(.int (3 : Int32))] 1 = mkF m 0 #[.val (.int (3 : Int32))] [] := by first | (simp [entryFrame, mkF, argsToLocals, Value.category]; done) | rfl | (rcases ref_cases hrf with rfl | ⟨q, rfl⟩ <;> rfl)
def Q_rmNL3 (Z : State)   (h0 : Heap) (n0 : Nat) (v : Option Value) (h : Heap) (L : List Loc) : Prop := v = some (.int (6 : Int32)) ∧ Fr n0 L ∧ h = h0
theorem rmNL3 (l : Launch) (Z : State) (a0 : Array Value) (hw : ∀ d ∈ tables_1, d.before a0 Z = true) (ws : List Jvm.Cond)   (h0 : Heap) (n0 : Nat) (O0 : Old Z n0 h0) :
    MetFree l oM9 (head1 (Jvm.Cond.code oM9 jdk_52_method_3_code 1 (some .int) :: ws) ({ frames := 0, cells := 0, slots := 0, locals := 0 } : Room)) (fun aq_ U => aq_ = #[(.int (3 : Int32))] ∧ Z.Warmed39 U.vm ∧ U.heap = h0) (fun _ _ _ _ _ => True) (fun _ U o U' => ∃ v L, o = .returned v ∧ Q_rmNL3 Z  h0 n0 v U'.heap L ∧ FrameEnd U o U' L 0 0) := by
  refine MetFree.of_bodySF (plainFor_of_name pn_22) hisR ?_
  intro p e s m args below meth c s₁ Bd hml0 hP hK
  obtain ⟨rfl, hZ, hh⟩ := hP
  have hx := Bd.exec
  have hby := Bd.bytes
  have hml : c.maxLocals = 1 := hml0
  have hown : s.vm.findClass "java/lang/StringUTF16" = some m.cls := findClass_of_methodNamed Bd.named
  have hnm := (name_of_methodNamed Bd.named Bd.method).1
  have X0 : Stand p l e ({ frames := 0, cells := 0, slots := 0, locals := 0 } : Room) s m #[(.int (3 : Int32))] below meth c s₁ [] 0 0 := Stand.of_body Bd
  have e0 : s₁.heap = h0 := by rw [← hh, Bd.state]; rfl
  have N0 := Fr.nil n0
  show oE p.tables e below (own_P s (Q_rmNL3 Z  h0 n0) 0 0) _
  refine own_cast (ef_rmNL3 m ) ?_
  show oE _ _ _ _ (s₁.setTop (mkF m 0 #[.val (.int 3)] []))
  refine oT (fun _ u => XS.iloadN X0.here hx rfl (hb hby d22_0) rfl u) ?_
  refine oT (fun _ u => XS.ifYes X0.here hx rfl (pc0 := 1) (pc' := 12) rfl (hb hby d22_1) rfl ((if0 _ _).trans (flt (by decide)).2.1) (by decide) (by decide) u) ?_
  show oE _ _ _ _ (s₁.setTop (mkF m 12 #[.val (.int 3)] []))
  refine oT (fun _ u => XS.iloadN X0.here hx rfl (hb hby d22_12) rfl u) ?_
  refine oT (X0.ldcInt hx hown (mvT hZ (ow98 hw)) (g := (mkF m 13 #[.val (.int 3)] [(.int 3)])) rfl (hb hby d22_13)) ?_
  show oE _ _ _ _ (s₁.setTop (mkF m 15 #[.val (.int 3)] [(.int 1073741823), (.int 3)]))
  refine oT (fun _ u => XS.icmpYes X0.here hx rfl (pc0 := 15) (pc' := 55) rfl (hb hby d22_15) rfl (tlt (by decide)).1 (by decide) (by decide) u) ?_
  show oE _ _ _ _ (s₁.setTop (mkF m 55 #[.val (.int 3)] []))
  refine oT (fun _ u => XS.iloadN X0.here hx rfl (hb hby d22_55) rfl u) ?_
  refine oT (fun _ u => XS.iconst X0.here hx rfl (hb hby d22_56) u) ?_
  refine oT (fun _ u => XS.ishl X0.here hx rfl (hb hby d22_57) rfl u) ?_
  show oE _ _ _ _ (s₁.setTop (mkF m 58 #[.val (.int 3)] [(.int 6)]))
  refine own_leave X0 (v := some (.int (6 : Int32))) (fun h => by rw [Bd.returns] at h; cases h) ?_ (by decide) (by decide) (fun fs hr => retOut X0 hx Bd.returns rfl (Or.inl ⟨rfl, Or.inl rfl, _, rfl⟩) (hb hby d22_58) hr)
  show Q_rmNL3 Z  h0 n0 _ s₁.heap _
  rw [e0]
  exact ⟨rfl, N0, rfl⟩
theorem ef_rmNF3 (m : MethodId)   : entryFrame m #[(.int (3 : Int32))] 1 = mkF m 0 #[.val (.int (3 : Int32))] [] := by first | (simp [entryFrame, mkF, argsToLocals, Value.category]; done) | rfl | (rcases ref_cases hrf with rfl | ⟨q, rfl⟩ <;> rfl)
def Q_rmNF3 (Z : State)   (h0 : Heap) (n0 : Nat) (v : Option Value) (h : Heap) (L : List Loc) : Prop := ∃ (b : Addr) (kb : ClassId), v = some (.ref b) ∧ n0 ≤ b ∧ h0.size ≤ b ∧ Fr n0 L ∧ Old Z n0 h ∧ Keep h0 h [] ∧ Arv Z h b kb .byte (6 : Int32) [(.int (0 : Int32)), (.int (0 : Int32)), (.int (0 : Int32)), (.int (0 : Int32)), (.int (0 : Int32)), (.int (0 : Int32))] (.int (0 : Int32))
theorem rmNF3 (l : Launch) (Z : State) (a0 : Array Value) (hw : ∀ d ∈ tables_1, d.before a0 Z = true) (ws : List Jvm.Cond)   (h0 : Heap) (n0 : Nat) (O0 : Old Z n0 h0) :
    MetFree l oM10 (head1 (Jvm.Cond.code oM10 jdk_52_method_2_code 1 (some (.array .byte)) :: ws) ({ frames := 1, cells := 1, slots := 6, locals := 12 } : Room)) (fun aq_ U => aq_ = #[(.int (3 : Int32))] ∧ Z.Warmed39 U.vm ∧ U.heap = h0) (fun _ _ _ _ _ => True) (fun _ U o U' => ∃ v L, o = .returned v ∧ Q_rmNF3 Z  h0 n0 v U'.heap L ∧ FrameEnd U o U' L 1 6) := by
  refine MetFree.of_bodySF (plainFor_of_name pn_21) hisR ?_
  intro p e s m args below meth c s₁ Bd hml0 hP hK
  obtain ⟨rfl, hZ, hh⟩ := hP
  have hx := Bd.exec
  have hby := Bd.bytes
  have hml : c.maxLocals = 1 := hml0
  have hown : s.vm.findClass "java/lang/StringUTF16" = some m.cls := findClass_of_methodNamed Bd.named
  have hnm := (name_of_methodNamed Bd.named Bd.method).1
  have X0 : Stand p l e ({ frames := 1, cells := 1, slots := 6, locals := 12 } : Room) s m #[(.int (3 : Int32))] below meth c s₁ [] 0 0 := Stand.of_body Bd
  have e0 : s₁.heap = h0 := by rw [← hh, Bd.state]; rfl
  have N0 := Fr.nil n0
  show oE p.tables e below (own_P s (Q_rmNF3 Z  h0 n0) 1 6) _
  refine own_cast (ef_rmNF3 m ) ?_
  have K0 := Keep.refl h0 []
  show oE _ _ _ _ (s₁.setTop (mkF m 0 #[.val (.int 3)] []))
  refine oT (fun _ u => XS.iloadN X0.here hx rfl (hb hby d21_0) rfl u) ?_
  obtain ⟨_, _, ⟨T1, L1, k1, n1⟩, -, X1, ⟨Lc1, hQ1, l1, y1, z1⟩, st1⟩ := Jvm.LawKit.callS X0 hx (y := oM9) hown (mvT hZ (ow95 hw)) (mvT hZ (ow96 hw)) (mvT hZ (ow49 hw)) (mvT hZ (ow97 hw)) (by decide) (backOf (W := 0) (rmNL3 l Z a0 hw []   h0 n0 O0 ) hZ (ow97 hw) (ow49 hw) (by decide) (by decide)) (g := (mkF m 1 #[.val (.int 3)] [(.int 3)])) rfl (by rw [hml]; rfl) (argsL := [(.int (3 : Int32))]) (rest := []) (lenOf pd_2 rfl) rfl (by show 2 * 0 + _ ≤ _; exact Nat.le_of_eq rfl) (hb hby d21_1) (fun _ _ => ⟨rfl, e0, (own_le rfl), (own_le rfl)⟩)
  dsimp only [Pt.U, Pt.locs, Pt.cells, Pt.slots] at X1 l1 y1 z1 st1 hQ1
  subst y1 z1
  obtain ⟨rfl, N1q, E1⟩ := hQ1
  have N1 := own_fr l1 N0 N1q
  refine oT st1 ?_
  show oE _ _ _ _ (T1.setTop (mkF m 4 #[.val (.int 3)] [(.int 6)]))
  obtain ⟨T2, h2, k2, X2, e2, E2, A2, st2⟩ := newP X1 hx hZ (aty := .byte) (ow25 hw) E1 (g := (mkF m 4 #[.val (.int 3)] [(.int 6)])) rfl (hb hby d21_4) rfl (by decide) (cap := 6) (by decide) (by decide) (by decide) (by decide)
  obtain ⟨b2, g2⟩ : ∃ z, z = h0.size := ⟨_, rfl⟩
  rw [← g2] at A2 st2
  have g_b2 : n0 ≤ b2 := Nat.le_trans (own_old_le O0) (Nat.le_of_eq g2.symm)
  have sz_b2 : h0.size ≤ b2 := Nat.le_trans K0.1 (Nat.le_of_eq g2.symm)
  refine oT st2 ?_
  have O2 := O0.ext E2
  have K2 := K0.ext E2
  have Vn2 : Arv Z h2 b2 k2 .byte (6 : Int32) [(.int (0 : Int32)), (.int (0 : Int32)), (.int (0 : Int32)), (.int (0 : Int32)), (.int (0 : Int32)), (.int (0 : Int32))] (.int (0 : Int32)) := (Arv.new A2 (by decide)).pad (pad_rep [] (.int (0 : Int32)) 6)
  show oE _ _ _ _ (T2.setTop (mkF m 6 #[.val (.int 3)] [(.ref b2)]))
  refine own_leave X2 (v := some (.ref b2)) (fun h => by rw [Bd.returns] at h; cases h) ?_ (by decide) (by decide) (fun fs hr => retOut X2 hx Bd.returns rfl (Or.inr (Or.inr (Or.inr (Or.inr ⟨rfl, rfl, rfl⟩)))) (hb hby d21_6) hr)
  show Q_rmNF3 Z  h0 n0 _ T2.heap _
  rw [e2]
  exact ⟨b2, k2, rfl, g_b2, sz_b2, N1, O2, K2, Vn2⟩
theorem ef_rmTB3 (m : MethodId) (ca : Addr) (cs_ : Int32) (rf_ : Value) (kc : ClassId) (ce0 : Int32) (ce1 : Int32) (ce2 : Int32) : entryFrame m #[(.ref ca), (.int (0 : Int32)), (.int (3 : Int32))] 5 = mkF m 0 #[.val (.ref ca), .val (.int (0 : Int32)), .val (.int (3 : Int32)), .unset, .unset] [] := by first | (simp [entryFrame, mkF, argsToLocals, Value.category]; done) | rfl | (rcases ref_cases hrf with rfl | ⟨q, rfl⟩ <;> rfl)
def Q_rmTB3 (Z : State) (ca : Addr) (cs_ : Int32) (rf_ : Value) (kc : ClassId) (ce0 : Int32) (ce1 : Int32) (ce2 : Int32) (h0 : Heap) (n0 : Nat) (v : Option Value) (h : Heap) (L : List Loc) : Prop := ∃ (b : Addr) (kb : ClassId), v = some (.ref b) ∧ n0 ≤ b ∧ h0.size ≤ b ∧ Fr n0 L ∧ Old Z n0 h ∧ Keep h0 h [] ∧ Arv Z h b kb .byte (6 : Int32) [(.int ((ce0 >>> ((0 : Int32) &&& 31)).toInt8.toInt32)), (.int ((ce0 >>> ((8 : Int32) &&& 31)).toInt8.toInt32)), (.int ((ce1 >>> ((0 : Int32) &&& 31)).toInt8.toInt32)), (.int ((ce1 >>> ((8 : Int32) &&& 31)).toInt8.toInt32)), (.int ((ce2 >>> ((0 : Int32) &&& 31)).toInt8.toInt32)), (.int ((ce2 >>> ((8 : Int32) &&& 31)).toInt8.toInt32))] (.int (0 : Int32))
theorem rmTB3 (l : Launch) (Z : State) (a0 : Array Value) (hw : ∀ d ∈ tables_1, d.before a0 Z = true) (ws : List Jvm.Cond) (ca : Addr) (cs_ : Int32) (rf_ : Value) (kc : ClassId) (ce0 : Int32) (ce1 : Int32) (ce2 : Int32) (h0 : Heap) (n0 : Nat) (O0 : Old Z n0 h0) (HS : own_HS Z cs_ rf_) (V_c : Arv Z h0 ca kc .char (3 : Int32) [(.int ce0), (.int ce1), (.int ce2)] (.int (0 : Int32))) :
    MetFree l oM11 (head1 (Jvm.Cond.code oM11 jdk_52_method_14_code 5 (some (.array .byte)) :: ws) ({ frames := 2, cells := 1, slots := 6, locals := 40 } : Room)) (fun aq_ U => aq_ = #[(.ref ca), (.int (0 : Int32)), (.int (3 : Int32))] ∧ Z.Warmed39 U.vm ∧ U.heap = h0) (fun _ _ _ _ _ => True) (fun _ U o U' => ∃ v L, o = .returned v ∧ Q_rmTB3 Z ca cs_ rf_ kc ce0 ce1 ce2 h0 n0 v U'.heap L ∧ FrameEnd U o U' L 1 6) := by
  refine MetFree.of_bodySF (plainFor_of_name pn_20) hisR ?_
  intro p e s m args below meth c s₁ Bd hml0 hP hK
  obtain ⟨rfl, hZ, hh⟩ := hP
  have hx := Bd.exec
  have hby := Bd.bytes
  have hml : c.maxLocals = 5 := hml0
  have hown : s.vm.findClass "java/lang/StringUTF16" = some m.cls := findClass_of_methodNamed Bd.named
  have hnm := (name_of_methodNamed Bd.named Bd.method).1
  have X0 : Stand p l e ({ frames := 2, cells := 1, slots := 6, locals := 40 } : Room) s m #[(.ref ca), (.int (0 : Int32)), (.int (3 : Int32))] below meth c s₁ [] 0 0 := Stand.of_body Bd
  have e0 : s₁.heap = h0 := by rw [← hh, Bd.state]; rfl
  have N0 := Fr.nil n0
  show oE p.tables e below (own_P s (Q_rmTB3 Z ca cs_ rf_ kc ce0 ce1 ce2 h0 n0) 1 6) _
  refine own_cast (ef_rmTB3 m ca cs_ rf_ kc ce0 ce1 ce2) ?_
  have K0 := Keep.refl h0 []
  show oE _ _ _ _ (s₁.setTop (mkF m 0 #[.val (.ref ca), .val (.int 0), .val (.int 3), .unset, .unset] []))
  refine oT (fun _ u => XS.iloadN X0.here hx rfl (hb hby d20_0) rfl u) ?_
  obtain ⟨_, _, ⟨T1, L1, k1, n1⟩, -, X1, ⟨Lc1, hQ1, l1, y1, z1⟩, st1⟩ := Jvm.LawKit.callS X0 hx (y := oM10) hown (mvT hZ (ow92 hw)) (mvT hZ (ow93 hw)) (mvT hZ (ow49 hw)) (mvT hZ (ow94 hw)) (by decide) (backOf (W := 0) (rmNF3 l Z a0 hw []   h0 n0 O0 ) hZ (ow94 hw) (ow49 hw) (by decide) (by decide)) (g := (mkF m 1 #[.val (.ref ca), .val (.int 0), .val (.int 3), .unset, .unset] [(.int 3)])) rfl (by rw [hml]; rfl) (argsL := [(.int (3 : Int32))]) (rest := []) (lenOf pd_3 rfl) rfl (by show 2 * 0 + _ ≤ _; exact Nat.le_of_eq rfl) (hb hby d20_1) (fun _ _ => ⟨rfl, e0, (own_le rfl), (own_le rfl)⟩)
  dsimp only [Pt.U, Pt.locs, Pt.cells, Pt.slots] at X1 l1 y1 z1 st1 hQ1
  subst y1 z1
  obtain ⟨u1, ku1, rfl, g_u1, sq_u1, N1q, Oq1, Kq1, Vx1⟩ := hQ1
  have N1 := own_fr l1 N0 N1q
  have ne_ca_u1 : ca ≠ u1 := Nat.ne_of_lt (Nat.lt_of_lt_of_le V_c.lt sq_u1)
  have sz_u1 : h0.size ≤ u1 := Nat.le_trans K0.1 sq_u1
  have KK1 := K0.trans Kq1 all0
  refine oT st1 ?_
  show oE _ _ _ _ (T1.setTop (mkF m 4 #[.val (.ref ca), .val (.int 0), .val (.int 3), .unset, .unset] [(.ref u1)]))
  refine oT (fun _ u => XS.astoreN X1.here hx rfl (hb hby d20_4) rfl rfl (l' := #[.val (.ref ca), .val (.int (0 : Int32)), .val (.int (3 : Int32)), .val (.ref u1), .unset]) rfl u) ?_
  refine oT (fun _ u => XS.iconst X1.here hx rfl (hb hby d20_5) u) ?_
  refine oT (fun _ u => XS.istore X1.here hx rfl (hb hby d20_6) rfl (l' := #[.val (.ref ca), .val (.int (0 : Int32)), .val (.int (3 : Int32)), .val (.ref u1), .val (.int (0 : Int32))]) rfl u) ?_
  refine oT (fun _ u => XS.iload X1.here hx rfl (hb hby d20_8) rfl u) ?_
  refine oT (fun _ u => XS.iloadN X1.here hx rfl (hb hby d20_10) rfl u) ?_
  refine oT (fun _ u => XS.icmpNo X1.here hx rfl (hb hby d20_11) rfl (tlt (by decide)).2.1 u) ?_
  show oE _ _ _ _ (T1.setTop (mkF m 14 #[.val (.ref ca), .val (.int 0), .val (.int 3), .val (.ref u1), .val (.int 0)] []))
  refine oT (fun _ u => XS.aloadN X1.here hx rfl (hb hby d20_14) rfl rfl u) ?_
  refine oT (fun _ u => XS.iload X1.here hx rfl (hb hby d20_15) rfl u) ?_
  refine oT (fun _ u => XS.aloadN X1.here hx rfl (hb hby d20_17) rfl rfl u) ?_
  refine oT (fun _ u => XS.iloadN X1.here hx rfl (hb hby d20_18) rfl u) ?_
  obtain ⟨cl2, Ar2, q2, S2, M2, H2, G2⟩ := id (V_c.keep Kq1 nin0)
  have hin2 : ¬ ((0 : Int32) < 0 ∨ cl2.slots.size ≤ ((0 : Int32)).toNatClampNeg) := inb_of S2 ⟨by decide, by decide⟩
  have hat2 : cl2.slots[((0 : Int32)).toNatClampNeg]? = some (.int ce0) := Has.at H2 hin2 rfl
  refine oT (fun _ u => X1.caload hx (j := (0 : Int32)) (v := (.int ce0)) Ar2.1 (State.isArrayOf_alike hZ.alike Ar2.2.1) Ar2.2.2 hin2 hat2 (g := (mkF m 19 #[.val (.ref ca), .val (.int 0), .val (.int 3), .val (.ref u1), .val (.int 0)] [(.int 0), (.ref ca), (.int 0), (.ref u1)])) rfl rfl (hb hby d20_19) _ u) ?_
  show oE _ _ _ _ (T1.setTop (mkF m 20 #[.val (.ref ca), .val (.int 0), .val (.int 3), .val (.ref u1), .val (.int 0)] [(.int ce0), (.int 0), (.ref u1)]))
  obtain ⟨_, _, ⟨T3, L3, k3, n3⟩, -, X3, ⟨Lc3, hQ3, l3, y3, z3⟩, st3⟩ := Jvm.LawKit.callS X1 hx (y := oM7) hown (mvT hZ (ow99 hw)) (mvT hZ (ow100 hw)) (mvT hZ (ow49 hw)) (mvT hZ (ow101 hw)) (by decide) (backOf (W := 0) (rmPC l Z a0 hw [] u1 (0 : Int32) ce0 cs_ rf_ ku1 (6 : Int32) [(.int (0 : Int32)), (.int (0 : Int32)), (.int (0 : Int32)), (.int (0 : Int32)), (.int (0 : Int32)), (.int (0 : Int32))] T1.heap n0 Oq1 HS Vx1 g_u1 ⟨by decide, by decide⟩ ⟨by decide, by decide⟩ (by show _ < 6; decide) (by show _ < 6; decide)) hZ (ow101 hw) (ow49 hw) (by decide) (by decide)) (g := (mkF m 20 #[.val (.ref ca), .val (.int 0), .val (.int 3), .val (.ref u1), .val (.int 0)] [(.int ce0), (.int 0), (.ref u1)])) rfl (by rw [hml]; rfl) (argsL := [(.ref u1), (.int (0 : Int32)), (.int ce0)]) (rest := []) (lenOf pd_4 rfl) rfl (by show 2 * 0 + _ ≤ _; exact Nat.le_of_eq rfl) (hb hby d20_20) (fun _ _ => ⟨rfl, rfl, (own_le rfl), (own_le rfl)⟩)
  dsimp only [Pt.U, Pt.locs, Pt.cells, Pt.slots] at X3 l3 y3 z3 st3 hQ3
  subst y3 z3
  obtain ⟨rfl, N3q, Oq3, Kq3, Vz3⟩ := hQ3
  have N3 := own_fr l3 N1 N3q
  have KK3 := KK1.trans Kq3 (allS (Or.inr sz_u1) all0)
  have Vx3 : Arv Z T3.heap u1 ku1 .byte (6 : Int32) [(.int ((ce0 >>> ((0 : Int32) &&& 31)).toInt8.toInt32)), (.int ((ce0 >>> ((8 : Int32) &&& 31)).toInt8.toInt32)), (.int (0 : Int32)), (.int (0 : Int32)), (.int (0 : Int32)), (.int (0 : Int32))] (.int (0 : Int32)) := Vz3
  refine oT st3 ?_
  show oE _ _ _ _ (T3.setTop (mkF m 23 #[.val (.ref ca), .val (.int 0), .val (.int 3), .val (.ref u1), .val (.int 0)] []))
  refine oT (fun _ u => XS.iinc X3.here hx rfl (hb hby d20_23) rfl (l' := #[.val (.ref ca), .val (.int (1 : Int32)), .val (.int (3 : Int32)), .val (.ref u1), .val (.int (0 : Int32))]) rfl u) ?_
  show oE _ _ _ _ (T3.setTop (mkF m 26 #[.val (.ref ca), .val (.int 1), .val (.int 3), .val (.ref u1), .val (.int 0)] []))
  refine oT (fun _ u => XS.iinc X3.here hx rfl (hb hby d20_26) rfl (l' := #[.val (.ref ca), .val (.int (1 : Int32)), .val (.int (3 : Int32)), .val (.ref u1), .val (.int (1 : Int32))]) rfl u) ?_
  show oE _ _ _ _ (T3.setTop (mkF m 29 #[.val (.ref ca), .val (.int 1), .val (.int 3), .val (.ref u1), .val (.int 1)] []))
  refine oT (fun _ u => XS.goto X3.here hx rfl (pc0 := 29) (pc' := 8) rfl (hb hby d20_29) (by decide) (by decide) u) ?_
  refine oT (fun _ u => XS.iload X3.here hx rfl (hb hby d20_8) rfl u) ?_
  refine oT (fun _ u => XS.iloadN X3.here hx rfl (hb hby d20_10) rfl u) ?_
  refine oT (fun _ u => XS.icmpNo X3.here hx rfl (hb hby d20_11) rfl (tlt (by decide)).2.1 u) ?_
  show oE _ _ _ _ (T3.setTop (mkF m 14 #[.val (.ref ca), .val (.int 1), .val (.int 3), .val (.ref u1), .val (.int 1)] []))
  refine oT (fun _ u => XS.aloadN X3.here hx rfl (hb hby d20_14) rfl rfl u) ?_
  refine oT (fun _ u => XS.iload X3.here hx rfl (hb hby d20_15) rfl u) ?_
  refine oT (fun _ u => XS.aloadN X3.here hx rfl (hb hby d20_17) rfl rfl u) ?_
  refine oT (fun _ u => XS.iloadN X3.here hx rfl (hb hby d20_18) rfl u) ?_
  obtain ⟨cl4, Ar4, q4, S4, M4, H4, G4⟩ := id ((V_c.keep Kq1 nin0).keep Kq3 (ninS ne_ca_u1 nin0))
  have hin4 : ¬ ((1 : Int32) < 0 ∨ cl4.slots.size ≤ ((1 : Int32)).toNatClampNeg) := inb_of S4 ⟨by decide, by decide⟩
  have hat4 : cl4.slots[((1 : Int32)).toNatClampNeg]? = some (.int ce1) := Has.at H4 hin4 rfl
  refine oT (fun _ u => X3.caload hx (j := (1 : Int32)) (v := (.int ce1)) Ar4.1 (State.isArrayOf_alike hZ.alike Ar4.2.1) Ar4.2.2 hin4 hat4 (g := (mkF m 19 #[.val (.ref ca), .val (.int 1), .val (.int 3), .val (.ref u1), .val (.int 1)] [(.int 1), (.ref ca), (.int 1), (.ref u1)])) rfl rfl (hb hby d20_19) _ u) ?_
  show oE _ _ _ _ (T3.setTop (mkF m 20 #[.val (.ref ca), .val (.int 1), .val (.int 3), .val (.ref u1), .val (.int 1)] [(.int ce1), (.int 1), (.ref u1)]))
  obtain ⟨_, _, ⟨T5, L5, k5, n5⟩, -, X5, ⟨Lc5, hQ5, l5, y5, z5⟩, st5⟩ := Jvm.LawKit.callS X3 hx (y := oM7) hown (mvT hZ (ow99 hw)) (mvT hZ (ow100 hw)) (mvT hZ (ow49 hw)) (mvT hZ (ow101 hw)) (by decide) (backOf (W := 0) (rmPC l Z a0 hw [] u1 (1 : Int32) ce1 cs_ rf_ ku1 (6 : Int32) [(.int ((ce0 >>> ((0 : Int32) &&& 31)).toInt8.toInt32)), (.int ((ce0 >>> ((8 : Int32) &&& 31)).toInt8.toInt32)), (.int (0 : Int32)), (.int (0 : Int32)), (.int (0 : Int32)), (.int (0 : Int32))] T3.heap n0 Oq3 HS Vx3 g_u1 ⟨by decide, by decide⟩ ⟨by decide, by decide⟩ (by show _ < 6; decide) (by show _ < 6; decide)) hZ (ow101 hw) (ow49 hw) (by decide) (by decide)) (g := (mkF m 20 #[.val (.ref ca), .val (.int 1), .val (.int 3), .val (.ref u1), .val (.int 1)] [(.int ce1), (.int 1), (.ref u1)])) rfl (by rw [hml]; rfl) (argsL := [(.ref u1), (.int (1 : Int32)), (.int ce1)]) (rest := []) (lenOf pd_4 rfl) rfl (by show 2 * 0 + _ ≤ _; exact Nat.le_of_eq rfl) (hb hby d20_20) (fun _ _ => ⟨rfl, rfl, (own_le rfl), (own_le rfl)⟩)
  dsimp only [Pt.U, Pt.locs, Pt.cells, Pt.slots] at X5 l5 y5 z5 st5 hQ5
  subst y5 z5
  obtain ⟨rfl, N5q, Oq5, Kq5, Vz5⟩ := hQ5
  have N5 := own_fr l5 N3 N5q
  have KK5 := KK3.trans Kq5 (allS (Or.inr sz_u1) all0)
  have Vx5 : Arv Z T5.heap u1 ku1 .byte (6 : Int32) [(.int ((ce0 >>> ((0 : Int32) &&& 31)).toInt8.toInt32)), (.int ((ce0 >>> ((8 : Int32) &&& 31)).toInt8.toInt32)), (.int ((ce1 >>> ((0 : Int32) &&& 31)).toInt8.toInt32)), (.int ((ce1 >>> ((8 : Int32) &&& 31)).toInt8.toInt32)), (.int (0 : Int32)), (.int (0 : Int32))] (.int (0 : Int32)) := Vz5
  refine oT st5 ?_
  show oE _ _ _ _ (T5.setTop (mkF m 23 #[.val (.ref ca), .val (.int 1), .val (.int 3), .val (.ref u1), .val (.int 1)] []))
  refine oT (fun _ u => XS.iinc X5.here hx rfl (hb hby d20_23) rfl (l' := #[.val (.ref ca), .val (.int (2 : Int32)), .val (.int (3 : Int32)), .val (.ref u1), .val (.int (1 : Int32))]) rfl u) ?_
  show oE _ _ _ _ (T5.setTop (mkF m 26 #[.val (.ref ca), .val (.int 2), .val (.int 3), .val (.ref u1), .val (.int 1)] []))
  refine oT (fun _ u => XS.iinc X5.here hx rfl (hb hby d20_26) rfl (l' := #[.val (.ref ca), .val (.int (2 : Int32)), .val (.int (3 : Int32)), .val (.ref u1), .val (.int (2 : Int32))]) rfl u) ?_
  show oE _ _ _ _ (T5.setTop (mkF m 29 #[.val (.ref ca), .val (.int 2), .val (.int 3), .val (.ref u1), .val (.int 2)] []))
  refine oT (fun _ u => XS.goto X5.here hx rfl (pc0 := 29) (pc' := 8) rfl (hb hby d20_29) (by decide) (by decide) u) ?_
  refine oT (fun _ u => XS.iload X5.here hx rfl (hb hby d20_8) rfl u) ?_
  refine oT (fun _ u => XS.iloadN X5.here hx rfl (hb hby d20_10) rfl u) ?_
  refine oT (fun _ u => XS.icmpNo X5.here hx rfl (hb hby d20_11) rfl (tlt (by decide)).2.1 u) ?_
  show oE _ _ _ _ (T5.setTop (mkF m 14 #[.val (.ref ca), .val (.int 2), .val (.int 3), .val (.ref u1), .val (.int 2)] []))
  refine oT (fun _ u => XS.aloadN X5.here hx rfl (hb hby d20_14) rfl rfl u) ?_
  refine oT (fun _ u => XS.iload X5.here hx rfl (hb hby d20_15) rfl u) ?_
  refine oT (fun _ u => XS.aloadN X5.here hx rfl (hb hby d20_17) rfl rfl u) ?_
  refine oT (fun _ u => XS.iloadN X5.here hx rfl (hb hby d20_18) rfl u) ?_
  obtain ⟨cl6, Ar6, q6, S6, M6, H6, G6⟩ := id (((V_c.keep Kq1 nin0).keep Kq3 (ninS ne_ca_u1 nin0)).keep Kq5 (ninS ne_ca_u1 nin0))
  have hin6 : ¬ ((2 : Int32) < 0 ∨ cl6.slots.size ≤ ((2 : Int32)).toNatClampNeg) := inb_of S6 ⟨by decide, by decide⟩
  have hat6 : cl6.slots[((2 : Int32)).toNatClampNeg]? = some (.int ce2) := Has.at H6 hin6 rfl
  refine oT (fun _ u => X5.caload hx (j := (2 : Int32)) (v := (.int ce2)) Ar6.1 (State.isArrayOf_alike hZ.alike Ar6.2.1) Ar6.2.2 hin6 hat6 (g := (mkF m 19 #[.val (.ref ca), .val (.int 2), .val (.int 3), .val (.ref u1), .val (.int 2)] [(.int 2), (.ref ca), (.int 2), (.ref u1)])) rfl rfl (hb hby d20_19) _ u) ?_
  show oE _ _ _ _ (T5.setTop (mkF m 20 #[.val (.ref ca), .val (.int 2), .val (.int 3), .val (.ref u1), .val (.int 2)] [(.int ce2), (.int 2), (.ref u1)]))
  obtain ⟨_, _, ⟨T7, L7, k7, n7⟩, -, X7, ⟨Lc7, hQ7, l7, y7, z7⟩, st7⟩ := Jvm.LawKit.callS X5 hx (y := oM7) hown (mvT hZ (ow99 hw)) (mvT hZ (ow100 hw)) (mvT hZ (ow49 hw)) (mvT hZ (ow101 hw)) (by decide) (backOf (W := 0) (rmPC l Z a0 hw [] u1 (2 : Int32) ce2 cs_ rf_ ku1 (6 : Int32) [(.int ((ce0 >>> ((0 : Int32) &&& 31)).toInt8.toInt32)), (.int ((ce0 >>> ((8 : Int32) &&& 31)).toInt8.toInt32)), (.int ((ce1 >>> ((0 : Int32) &&& 31)).toInt8.toInt32)), (.int ((ce1 >>> ((8 : Int32) &&& 31)).toInt8.toInt32)), (.int (0 : Int32)), (.int (0 : Int32))] T5.heap n0 Oq5 HS Vx5 g_u1 ⟨by decide, by decide⟩ ⟨by decide, by decide⟩ (by show _ < 6; decide) (by show _ < 6; decide)) hZ (ow101 hw) (ow49 hw) (by decide) (by decide)) (g := (mkF m 20 #[.val (.ref ca), .val (.int 2), .val (.int 3), .val (.ref u1), .val (.int 2)] [(.int ce2), (.int 2), (.ref u1)])) rfl (by rw [hml]; rfl) (argsL := [(.ref u1), (.int (2 : Int32)), (.int ce2)]) (rest := []) (lenOf pd_4 rfl) rfl (by show 2 * 0 + _ ≤ _; exact Nat.le_of_eq rfl) (hb hby d20_20) (fun _ _ => ⟨rfl, rfl, (own_le rfl), (own_le rfl)⟩)
  dsimp only [Pt.U, Pt.locs, Pt.cells, Pt.slots] at X7 l7 y7 z7 st7 hQ7
  subst y7 z7
  obtain ⟨rfl, N7q, Oq7, Kq7, Vz7⟩ := hQ7
  have N7 := own_fr l7 N5 N7q
  have KK7 := KK5.trans Kq7 (allS (Or.inr sz_u1) all0)
  have Vx7 : Arv Z T7.heap u1 ku1 .byte (6 : Int32) [(.int ((ce0 >>> ((0 : Int32) &&& 31)).toInt8.toInt32)), (.int ((ce0 >>> ((8 : Int32) &&& 31)).toInt8.toInt32)), (.int ((ce1 >>> ((0 : Int32) &&& 31)).toInt8.toInt32)), (.int ((ce1 >>> ((8 : Int32) &&& 31)).toInt8.toInt32)), (.int ((ce2 >>> ((0 : Int32) &&& 31)).toInt8.toInt32)), (.int ((ce2 >>> ((8 : Int32) &&& 31)).toInt8.toInt32))] (.int (0 : Int32)) := Vz7
  refine oT st7 ?_
  show oE _ _ _ _ (T7.setTop (mkF m 23 #[.val (.ref ca), .val (.int 2), .val (.int 3), .val (.ref u1), .val (.int 2)] []))
  refine oT (fun _ u => XS.iinc X7.here hx rfl (hb hby d20_23) rfl (l' := #[.val (.ref ca), .val (.int (3 : Int32)), .val (.int (3 : Int32)), .val (.ref u1), .val (.int (2 : Int32))]) rfl u) ?_
  show oE _ _ _ _ (T7.setTop (mkF m 26 #[.val (.ref ca), .val (.int 3), .val (.int 3), .val (.ref u1), .val (.int 2)] []))
  refine oT (fun _ u => XS.iinc X7.here hx rfl (hb hby d20_26) rfl (l' := #[.val (.ref ca), .val (.int (3 : Int32)), .val (.int (3 : Int32)), .val (.ref u1), .val (.int (3 : Int32))]) rfl u) ?_
  show oE _ _ _ _ (T7.setTop (mkF m 29 #[.val (.ref ca), .val (.int 3), .val (.int 3), .val (.ref u1), .val (.int 3)] []))
  refine oT (fun _ u => XS.goto X7.here hx rfl (pc0 := 29) (pc' := 8) rfl (hb hby d20_29) (by decide) (by decide) u) ?_
  refine oT (fun _ u => XS.iload X7.here hx rfl (hb hby d20_8) rfl u) ?_
  refine oT (fun _ u => XS.iloadN X7.here hx rfl (hb hby d20_10) rfl u) ?_
  refine oT (fun _ u => XS.icmpYes X7.here hx rfl (pc0 := 11) (pc' := 32) rfl (hb hby d20_11) rfl (flt (by decide)).2.1 (by decide) (by decide) u) ?_
  show oE _ _ _ _ (T7.setTop (mkF m 32 #[.val (.ref ca), .val (.int 3), .val (.int 3), .val (.ref u1), .val (.int 3)] []))
  refine oT (fun _ u => XS.aloadN X7.here hx rfl (hb hby d20_32) rfl rfl u) ?_
  refine own_leave X7 (v := some (.ref u1)) (fun h => by rw [Bd.returns] at h; cases h) ?_ (by decide) (by decide) (fun fs hr => retOut X7 hx Bd.returns rfl (Or.inr (Or.inr (Or.inr (Or.inr ⟨rfl, rfl, rfl⟩)))) (hb hby d20_33) hr)
  show Q_rmTB3 Z ca cs_ rf_ kc ce0 ce1 ce2 h0 n0 _ T7.heap _
  exact ⟨u1, ku1, rfl, g_u1, sz_u1, N7, Oq7, KK7, Vx7⟩
theorem ef_rmNL4 (m : MethodId)   : entryFrame m #[(.int (4 : Int32))] 1 = mkF m 0 #[.val (.int (4 : Int32))] [] := by first | (simp [entryFrame, mkF, argsToLocals, Value.category]; done) | rfl | (rcases ref_cases hrf with rfl | ⟨q, rfl⟩ <;> rfl)
def Q_rmNL4 (Z : State)   (h0 : Heap) (n0 : Nat) (v : Option Value) (h : Heap) (L : List Loc) : Prop := v = some (.int (8 : Int32)) ∧ Fr n0 L ∧ h = h0
theorem rmNL4 (l : Launch) (Z : State) (a0 : Array Value) (hw : ∀ d ∈ tables_1, d.before a0 Z = true) (ws : List Jvm.Cond)   (h0 : Heap) (n0 : Nat) (O0 : Old Z n0 h0) :
    MetFree l oM9 (head1 (Jvm.Cond.code oM9 jdk_52_method_3_code 1 (some .int) :: ws) ({ frames := 0, cells := 0, slots := 0, locals := 0 } : Room)) (fun aq_ U => aq_ = #[(.int (4 : Int32))] ∧ Z.Warmed39 U.vm ∧ U.heap = h0) (fun _ _ _ _ _ => True) (fun _ U o U' => ∃ v L, o = .returned v ∧ Q_rmNL4 Z  h0 n0 v U'.heap L ∧ FrameEnd U o U' L 0 0) := by
  refine MetFree.of_bodySF (plainFor_of_name pn_22) hisR ?_
  intro p e s m args below meth c s₁ Bd hml0 hP hK
  obtain ⟨rfl, hZ, hh⟩ := hP
  have hx := Bd.exec
  have hby := Bd.bytes
  have hml : c.maxLocals = 1 := hml0
  have hown : s.vm.findClass "java/lang/StringUTF16" = some m.cls := findClass_of_methodNamed Bd.named
  have hnm := (name_of_methodNamed Bd.named Bd.method).1
  have X0 : Stand p l e ({ frames := 0, cells := 0, slots := 0, locals := 0 } : Room) s m #[(.int (4 : Int32))] below meth c s₁ [] 0 0 := Stand.of_body Bd
  have e0 : s₁.heap = h0 := by rw [← hh, Bd.state]; rfl
  have N0 := Fr.nil n0
  show oE p.tables e below (own_P s (Q_rmNL4 Z  h0 n0) 0 0) _
  refine own_cast (ef_rmNL4 m ) ?_
  show oE _ _ _ _ (s₁.setTop (mkF m 0 #[.val (.int 4)] []))
  refine oT (fun _ u => XS.iloadN X0.here hx rfl (hb hby d22_0) rfl u) ?_
  refine oT (fun _ u => XS.ifYes X0.here hx rfl (pc0 := 1) (pc' := 12) rfl (hb hby d22_1) rfl ((if0 _ _).trans (flt (by decide)).2.1) (by decide) (by decide) u) ?_
  show oE _ _ _ _ (s₁.setTop (mkF m 12 #[.val (.int 4)] []))
  refine oT (fun _ u => XS.iloadN X0.here hx rfl (hb hby d22_12) rfl u) ?_
  refine oT (X0.ldcInt hx hown (mvT hZ (ow98 hw)) (g := (mkF m 13 #[.val (.int 4)] [(.int 4)])) rfl (hb hby d22_13)) ?_
  show oE _ _ _ _ (s₁.setTop (mkF m 15 #[.val (.int 4)] [(.int 1073741823), (.int 4)]))
  refine oT (fun _ u => XS.icmpYes X0.here hx rfl (pc0 := 15) (pc' := 55) rfl (hb hby d22_15) rfl (tlt (by decide)).1 (by decide) (by decide) u) ?_
  show oE _ _ _ _ (s₁.setTop (mkF m 55 #[.val (.int 4)] []))
  refine oT (fun _ u => XS.iloadN X0.here hx rfl (hb hby d22_55) rfl u) ?_
  refine oT (fun _ u => XS.iconst X0.here hx rfl (hb hby d22_56) u) ?_
  refine oT (fun _ u => XS.ishl X0.here hx rfl (hb hby d22_57) rfl u) ?_
  show oE _ _ _ _ (s₁.setTop (mkF m 58 #[.val (.int 4)] [(.int 8)]))
  refine own_leave X0 (v := some (.int (8 : Int32))) (fun h => by rw [Bd.returns] at h; cases h) ?_ (by decide) (by decide) (fun fs hr => retOut X0 hx Bd.returns rfl (Or.inl ⟨rfl, Or.inl rfl, _, rfl⟩) (hb hby d22_58) hr)
  show Q_rmNL4 Z  h0 n0 _ s₁.heap _
  rw [e0]
  exact ⟨rfl, N0, rfl⟩
theorem ef_rmNF4 (m : MethodId)   : entryFrame m #[(.int (4 : Int32))] 1 = mkF m 0 #[.val (.int (4 : Int32))] [] := by first | (simp [entryFrame, mkF, argsToLocals, Value.category]; done) | rfl | (rcases ref_cases hrf with rfl | ⟨q, rfl⟩ <;> rfl)
def Q_rmNF4 (Z : State)   (h0 : Heap) (n0 : Nat) (v : Option Value) (h : Heap) (L : List Loc) : Prop := ∃ (b : Addr) (kb : ClassId), v = some (.ref b) ∧ n0 ≤ b ∧ h0.size ≤ b ∧ Fr n0 L ∧ Old Z n0 h ∧ Keep h0 h [] ∧ Arv Z h b kb .byte (8 : Int32) [(.int (0 : Int32)), (.int (0 : Int32)), (.int (0 : Int32)), (.int (0 : Int32)), (.int (0 : Int32)), (.int (0 : Int32)), (.int (0 : Int32)), (.int (0 : Int32))] (.int (0 : Int32))
theorem rmNF4 (l : Launch) (Z : State) (a0 : Array Value) (hw : ∀ d ∈ tables_1, d.before a0 Z = true) (ws : List Jvm.Cond)   (h0 : Heap) (n0 : Nat) (O0 : Old Z n0 h0) :
    MetFree l oM10 (head1 (Jvm.Cond.code oM10 jdk_52_method_2_code 1 (some (.array .byte)) :: ws) ({ frames := 1, cells := 1, slots := 8, locals := 12 } : Room)) (fun aq_ U => aq_ = #[(.int (4 : Int32))] ∧ Z.Warmed39 U.vm ∧ U.heap = h0) (fun _ _ _ _ _ => True) (fun _ U o U' => ∃ v L, o = .returned v ∧ Q_rmNF4 Z  h0 n0 v U'.heap L ∧ FrameEnd U o U' L 1 8) := by
  refine MetFree.of_bodySF (plainFor_of_name pn_21) hisR ?_
  intro p e s m args below meth c s₁ Bd hml0 hP hK
  obtain ⟨rfl, hZ, hh⟩ := hP
  have hx := Bd.exec
  have hby := Bd.bytes
  have hml : c.maxLocals = 1 := hml0
  have hown : s.vm.findClass "java/lang/StringUTF16" = some m.cls := findClass_of_methodNamed Bd.named
  have hnm := (name_of_methodNamed Bd.named Bd.method).1
  have X0 : Stand p l e ({ frames := 1, cells := 1, slots := 8, locals := 12 } : Room) s m #[(.int (4 : Int32))] below meth c s₁ [] 0 0 := Stand.of_body Bd
  have e0 : s₁.heap = h0 := by rw [← hh, Bd.state]; rfl
  have N0 := Fr.nil n0
  show oE p.tables e below (own_P s (Q_rmNF4 Z  h0 n0) 1 8) _
  refine own_cast (ef_rmNF4 m ) ?_
  have K0 := Keep.refl h0 []
  show oE _ _ _ _ (s₁.setTop (mkF m 0 #[.val (.int 4)] []))
  refine oT (fun _ u => XS.iloadN X0.here hx rfl (hb hby d21_0) rfl u) ?_
  obtain ⟨_, _, ⟨T1, L1, k1, n1⟩, -, X1, ⟨Lc1, hQ1, l1, y1, z1⟩, st1⟩ := Jvm.LawKit.callS X0 hx (y := oM9) hown (mvT hZ (ow95 hw)) (mvT hZ (ow96 hw)) (mvT hZ (ow49 hw)) (mvT hZ (ow97 hw)) (by decide) (backOf (W := 0) (rmNL4 l Z a0 hw []   h0 n0 O0 ) hZ (ow97 hw) (ow49 hw) (by decide) (by decide)) (g := (mkF m 1 #[.val (.int 4)] [(.int 4)])) rfl (by rw [hml]; rfl) (argsL := [(.int (4 : Int32))]) (rest := []) (lenOf pd_2 rfl) rfl (by show 2 * 0 + _ ≤ _; exact Nat.le_of_eq rfl) (hb hby d21_1) (fun _ _ => ⟨rfl, e0, (own_le rfl), (own_le rfl)⟩)
  dsimp only [Pt.U, Pt.locs, Pt.cells, Pt.slots] at X1 l1 y1 z1 st1 hQ1
  subst y1 z1
  obtain ⟨rfl, N1q, E1⟩ := hQ1
  have N1 := own_fr l1 N0 N1q
  refine oT st1 ?_
  show oE _ _ _ _ (T1.setTop (mkF m 4 #[.val (.int 4)] [(.int 8)]))
  obtain ⟨T2, h2, k2, X2, e2, E2, A2, st2⟩ := newP X1 hx hZ (aty := .byte) (ow25 hw) E1 (g := (mkF m 4 #[.val (.int 4)] [(.int 8)])) rfl (hb hby d21_4) rfl (by decide) (cap := 8) (by decide) (by decide) (by decide) (by decide)
  obtain ⟨b2, g2⟩ : ∃ z, z = h0.size := ⟨_, rfl⟩
  rw [← g2] at A2 st2
  have g_b2 : n0 ≤ b2 := Nat.le_trans (own_old_le O0) (Nat.le_of_eq g2.symm)
  have sz_b2 : h0.size ≤ b2 := Nat.le_trans K0.1 (Nat.le_of_eq g2.symm)
  refine oT st2 ?_
  have O2 := O0.ext E2
  have K2 := K0.ext E2
  have Vn2 : Arv Z h2 b2 k2 .byte (8 : Int32) [(.int (0 : Int32)), (.int (0 : Int32)), (.int (0 : Int32)), (.int (0 : Int32)), (.int (0 : Int32)), (.int (0 : Int32)), (.int (0 : Int32)), (.int (0 : Int32))] (.int (0 : Int32)) := (Arv.new A2 (by decide)).pad (pad_rep [] (.int (0 : Int32)) 8)
  show oE _ _ _ _ (T2.setTop (mkF m 6 #[.val (.int 4)] [(.ref b2)]))
  refine own_leave X2 (v := some (.ref b2)) (fun h => by rw [Bd.returns] at h; cases h) ?_ (by decide) (by decide) (fun fs hr => retOut X2 hx Bd.returns rfl (Or.inr (Or.inr (Or.inr (Or.inr ⟨rfl, rfl, rfl⟩)))) (hb hby d21_6) hr)
  show Q_rmNF4 Z  h0 n0 _ T2.heap _
  rw [e2]
  exact ⟨b2, k2, rfl, g_b2, sz_b2, N1, O2, K2, Vn2⟩
theorem ef_rmTB4 (m : MethodId) (ca : Addr) (cs_ : Int32) (rf_ : Value) (kc : ClassId) (ce0 : Int32) (ce1 : Int32) (ce2 : Int32) (ce3 : Int32) : entryFrame m #[(.ref ca), (.int (0 : Int32)), (.int (4 : Int32))] 5 = mkF m 0 #[.val (.ref ca), .val (.int (0 : Int32)), .val (.int (4 : Int32)), .unset, .unset] [] := by first | (simp [entryFrame, mkF, argsToLocals, Value.category]; done) | rfl | (rcases ref_cases hrf with rfl | ⟨q, rfl⟩ <;> rfl)
def Q_rmTB4 (Z : State) (ca : Addr) (cs_ : Int32) (rf_ : Value) (kc : ClassId) (ce0 : Int32) (ce1 : Int32) (ce2 : Int32) (ce3 : Int32) (h0 : Heap) (n0 : Nat) (v : Option Value) (h : Heap) (L : List Loc) : Prop := ∃ (b : Addr) (kb : ClassId), v = some (.ref b) ∧ n0 ≤ b ∧ h0.size ≤ b ∧ Fr n0 L ∧ Old Z n0 h ∧ Keep h0 h [] ∧ Arv Z h b kb .byte (8 : Int32) [(.int ((ce0 >>> ((0 : Int32) &&& 31)).toInt8.toInt32)), (.int ((ce0 >>> ((8 : Int32) &&& 31)).toInt8.toInt32)), (.int ((ce1 >>> ((0 : Int32) &&& 31)).toInt8.toInt32)), (.int ((ce1 >>> ((8 : Int32) &&& 31)).toInt8.toInt32)), (.int ((ce2 >>> ((0 : Int32) &&& 31)).toInt8.toInt32)), (.int ((ce2 >>> ((8 : Int32) &&& 31)).toInt8.toInt32)), (.int ((ce3 >>> ((0 : Int32) &&& 31)).toInt8.toInt32)), (.int ((ce3 >>> ((8 : Int32) &&& 31)).toInt8.toInt32))] (.int (0 : Int32))
theorem rmTB4 (l : Launch) (Z : State) (a0 : Array Value) (hw : ∀ d ∈ tables_1, d.before a0 Z = true) (ws : List Jvm.Cond) (ca : Addr) (cs_ : Int32) (rf_ : Value) (kc : ClassId) (ce0 : Int32) (ce1 : Int32) (ce2 : Int32) (ce3 : Int32) (h0 : Heap) (n0 : Nat) (O0 : Old Z n0 h0) (HS : own_HS Z cs_ rf_) (V_c : Arv Z h0 ca kc .char (4 : Int32) [(.int ce0), (.int ce1), (.int ce2), (.int ce3)] (.int (0 : Int32))) :
    MetFree l oM11 (head1 (Jvm.Cond.code oM11 jdk_52_method_14_code 5 (some (.array .byte)) :: ws) ({ frames := 2, cells := 1, slots := 8, locals := 40 } : Room)) (fun aq_ U => aq_ = #[(.ref ca), (.int (0 : Int32)), (.int (4 : Int32))] ∧ Z.Warmed39 U.vm ∧ U.heap = h0) (fun _ _ _ _ _ => True) (fun _ U o U' => ∃ v L, o = .returned v ∧ Q_rmTB4 Z ca cs_ rf_ kc ce0 ce1 ce2 ce3 h0 n0 v U'.heap L ∧ FrameEnd U o U' L 1 8) := by
  refine MetFree.of_bodySF (plainFor_of_name pn_20) hisR ?_
  intro p e s m args below meth c s₁ Bd hml0 hP hK
  obtain ⟨rfl, hZ, hh⟩ := hP
  have hx := Bd.exec
  have hby := Bd.bytes
  have hml : c.maxLocals = 5 := hml0
  have hown : s.vm.findClass "java/lang/StringUTF16" = some m.cls := findClass_of_methodNamed Bd.named
  have hnm := (name_of_methodNamed Bd.named Bd.method).1
  have X0 : Stand p l e ({ frames := 2, cells := 1, slots := 8, locals := 40 } : Room) s m #[(.ref ca), (.int (0 : Int32)), (.int (4 : Int32))] below meth c s₁ [] 0 0 := Stand.of_body Bd
  have e0 : s₁.heap = h0 := by rw [← hh, Bd.state]; rfl
  have N0 := Fr.nil n0
  show oE p.tables e below (own_P s (Q_rmTB4 Z ca cs_ rf_ kc ce0 ce1 ce2 ce3 h0 n0) 1 8) _
  refine own_cast (ef_rmTB4 m ca cs_ rf_ kc ce0 ce1 ce2 ce3) ?_
  have K0 := Keep.refl h0 []
  show oE _ _ _ _ (s₁.setTop (mkF m 0 #[.val (.ref ca), .val (.int 0), .val (.int 4), .unset, .unset] []))
  refine oT (fun _ u => XS.iloadN X0.here hx rfl (hb hby d20_0) rfl u) ?_
  obtain ⟨_, _, ⟨T1, L1, k1, n1⟩, -, X1, ⟨Lc1, hQ1, l1, y1, z1⟩, st1⟩ := Jvm.LawKit.callS X0 hx (y := oM10) hown (mvT hZ (ow92 hw)) (mvT hZ (ow93 hw)) (mvT hZ (ow49 hw)) (mvT hZ (ow94 hw)) (by decide) (backOf (W := 0) (rmNF4 l Z a0 hw []   h0 n0 O0 ) hZ (ow94 hw) (ow49 hw) (by decide) (by decide)) (g := (mkF m 1 #[.val (.ref ca), .val (.int 0), .val (.int 4), .unset, .unset] [(.int 4)])) rfl (by rw [hml]; rfl) (argsL := [(.int (4 : Int32))]) (rest := []) (lenOf pd_3 rfl) rfl (by show 2 * 0 + _ ≤ _; exact Nat.le_of_eq rfl) (hb hby d20_1) (fun _ _ => ⟨rfl, e0, (own_le rfl), (own_le rfl)⟩)
  dsimp only [Pt.U, Pt.locs, Pt.cells, Pt.slots] at X1 l1 y1 z1 st1 hQ1
  subst y1 z1
  obtain ⟨u1, ku1, rfl, g_u1, sq_u1, N1q, Oq1, Kq1, Vx1⟩ := hQ1
  have N1 := own_fr l1 N0 N1q
  have ne_ca_u1 : ca ≠ u1 := Nat.ne_of_lt (Nat.lt_of_lt_of_le V_c.lt sq_u1)
  have sz_u1 : h0.size ≤ u1 := Nat.le_trans K0.1 sq_u1
  have KK1 := K0.trans Kq1 all0
  refine oT st1 ?_
  show oE _ _ _ _ (T1.setTop (mkF m 4 #[.val (.ref ca), .val (.int 0), .val (.int 4), .unset, .unset] [(.ref u1)]))
  refine oT (fun _ u => XS.astoreN X1.here hx rfl (hb hby d20_4) rfl rfl (l' := #[.val (.ref ca), .val (.int (0 : Int32)), .val (.int (4 : Int32)), .val (.ref u1), .unset]) rfl u) ?_
  refine oT (fun _ u => XS.iconst X1.here hx rfl (hb hby d20_5) u) ?_
  refine oT (fun _ u => XS.istore X1.here hx rfl (hb hby d20_6) rfl (l' := #[.val (.ref ca), .val (.int (0 : Int32)), .val (.int (4 : Int32)), .val (.ref u1), .val (.int (0 : Int32))]) rfl u) ?_
  refine oT (fun _ u => XS.iload X1.here hx rfl (hb hby d20_8) rfl u) ?_
  refine oT (fun _ u => XS.iloadN X1.here hx rfl (hb hby d20_10) rfl u) ?_
  refine oT (fun _ u => XS.icmpNo X1.here hx rfl (hb hby d20_11) rfl (tlt (by decide)).2.1 u) ?_
  show oE _ _ _ _ (T1.setTop (mkF m 14 #[.val (.ref ca), .val (.int 0), .val (.int 4), .val (.ref u1), .val (.int 0)] []))
  refine oT (fun _ u => XS.aloadN X1.here hx rfl (hb hby d20_14) rfl rfl u) ?_
  refine oT (fun _ u => XS.iload X1.here hx rfl (hb hby d20_15) rfl u) ?_
  refine oT (fun _ u => XS.aloadN X1.here hx rfl (hb hby d20_17) rfl rfl u) ?_
  refine oT (fun _ u => XS.iloadN X1.here hx rfl (hb hby d20_18) rfl u) ?_
  obtain ⟨cl2, Ar2, q2, S2, M2, H2, G2⟩ := id (V_c.keep Kq1 nin0)
  have hin2 : ¬ ((0 : Int32) < 0 ∨ cl2.slots.size ≤ ((0 : Int32)).toNatClampNeg) := inb_of S2 ⟨by decide, by decide⟩
  have hat2 : cl2.slots[((0 : Int32)).toNatClampNeg]? = some (.int ce0) := Has.at H2 hin2 rfl
  refine oT (fun _ u => X1.caload hx (j := (0 : Int32)) (v := (.int ce0)) Ar2.1 (State.isArrayOf_alike hZ.alike Ar2.2.1) Ar2.2.2 hin2 hat2 (g := (mkF m 19 #[.val (.ref ca), .val (.int 0), .val (.int 4), .val (.ref u1), .val (.int 0)] [(.int 0), (.ref ca), (.int 0), (.ref u1)])) rfl rfl (hb hby d20_19) _ u) ?_
  show oE _ _ _ _ (T1.setTop (mkF m 20 #[.val (.ref ca), .val (.int 0), .val (.int 4), .val (.ref u1), .val (.int 0)] [(.int ce0), (.int 0), (.ref u1)]))
  obtain ⟨_, _, ⟨T3, L3, k3, n3⟩, -, X3, ⟨Lc3, hQ3, l3, y3, z3⟩, st3⟩ := Jvm.LawKit.callS X1 hx (y := oM7) hown (mvT hZ (ow99 hw)) (mvT hZ (ow100 hw)) (mvT hZ (ow49 hw)) (mvT hZ (ow101 hw)) (by decide) (backOf (W := 0) (rmPC l Z a0 hw [] u1 (0 : Int32) ce0 cs_ rf_ ku1 (8 : Int32) [(.int (0 : Int32)), (.int (0 : Int32)), (.int (0 : Int32)), (.int (0 : Int32)), (.int (0 : Int32)), (.int (0 : Int32)), (.int (0 : Int32)), (.int (0 : Int32))] T1.heap n0 Oq1 HS Vx1 g_u1 ⟨by decide, by decide⟩ ⟨by decide, by decide⟩ (by show _ < 8; decide) (by show _ < 8; decide)) hZ (ow101 hw) (ow49 hw) (by decide) (by decide)) (g := (mkF m 20 #[.val (.ref ca), .val (.int 0), .val (.int 4), .val (.ref u1), .val (.int 0)] [(.int ce0), (.int 0), (.ref u1)])) rfl (by rw [hml]; rfl) (argsL := [(.ref u1), (.int (0 : Int32)), (.int ce0)]) (rest := []) (lenOf pd_4 rfl) rfl (by show 2 * 0 + _ ≤ _; exact Nat.le_of_eq rfl) (hb hby d20_20) (fun _ _ => ⟨rfl, rfl, (own_le rfl), (own_le rfl)⟩)
  dsimp only [Pt.U, Pt.locs, Pt.cells, Pt.slots] at X3 l3 y3 z3 st3 hQ3
  subst y3 z3
  obtain ⟨rfl, N3q, Oq3, Kq3, Vz3⟩ := hQ3
  have N3 := own_fr l3 N1 N3q
  have KK3 := KK1.trans Kq3 (allS (Or.inr sz_u1) all0)
  have Vx3 : Arv Z T3.heap u1 ku1 .byte (8 : Int32) [(.int ((ce0 >>> ((0 : Int32) &&& 31)).toInt8.toInt32)), (.int ((ce0 >>> ((8 : Int32) &&& 31)).toInt8.toInt32)), (.int (0 : Int32)), (.int (0 : Int32)), (.int (0 : Int32)), (.int (0 : Int32)), (.int (0 : Int32)), (.int (0 : Int32))] (.int (0 : Int32)) := Vz3
  refine oT st3 ?_
  show oE _ _ _ _ (T3.setTop (mkF m 23 #[.val (.ref ca), .val (.int 0), .val (.int 4), .val (.ref u1), .val (.int 0)] []))
  refine oT (fun _ u => XS.iinc X3.here hx rfl (hb hby d20_23) rfl (l' := #[.val (.ref ca), .val (.int (1 : Int32)), .val (.int (4 : Int32)), .val (.ref u1), .val (.int (0 : Int32))]) rfl u) ?_
  show oE _ _ _ _ (T3.setTop (mkF m 26 #[.val (.ref ca), .val (.int 1), .val (.int 4), .val (.ref u1), .val (.int 0)] []))
  refine oT (fun _ u => XS.iinc X3.here hx rfl (hb hby d20_26) rfl (l' := #[.val (.ref ca), .val (.int (1 : Int32)), .val (.int (4 : Int32)), .val (.ref u1), .val (.int (1 : Int32))]) rfl u) ?_
  show oE _ _ _ _ (T3.setTop (mkF m 29 #[.val (.ref ca), .val (.int 1), .val (.int 4), .val (.ref u1), .val (.int 1)] []))
  refine oT (fun _ u => XS.goto X3.here hx rfl (pc0 := 29) (pc' := 8) rfl (hb hby d20_29) (by decide) (by decide) u) ?_
  refine oT (fun _ u => XS.iload X3.here hx rfl (hb hby d20_8) rfl u) ?_
  refine oT (fun _ u => XS.iloadN X3.here hx rfl (hb hby d20_10) rfl u) ?_
  refine oT (fun _ u => XS.icmpNo X3.here hx rfl (hb hby d20_11) rfl (tlt (by decide)).2.1 u) ?_
  show oE _ _ _ _ (T3.setTop (mkF m 14 #[.val (.ref ca), .val (.int 1), .val (.int 4), .val (.ref u1), .val (.int 1)] []))
  refine oT (fun _ u => XS.aloadN X3.here hx rfl (hb hby d20_14) rfl rfl u) ?_
  refine oT (fun _ u => XS.iload X3.here hx rfl (hb hby d20_15) rfl u) ?_
  refine oT (fun _ u => XS.aloadN X3.here hx rfl (hb hby d20_17) rfl rfl u) ?_
  refine oT (fun _ u => XS.iloadN X3.here hx rfl (hb hby d20_18) rfl u) ?_
  obtain ⟨cl4, Ar4, q4, S4, M4, H4, G4⟩ := id ((V_c.keep Kq1 nin0).keep Kq3 (ninS ne_ca_u1 nin0))
  have hin4 : ¬ ((1 : Int32) < 0 ∨ cl4.slots.size ≤ ((1 : Int32)).toNatClampNeg) := inb_of S4 ⟨by decide, by decide⟩
  have hat4 : cl4.slots[((1 : Int32)).toNatClampNeg]? = some (.int ce1) := Has.at H4 hin4 rfl
  refine oT (fun _ u => X3.caload hx (j := (1 : Int32)) (v := (.int ce1)) Ar4.1 (State.isArrayOf_alike hZ.alike Ar4.2.1) Ar4.2.2 hin4 hat4 (g := (mkF m 19 #[.val (.ref ca), .val (.int 1), .val (.int 4), .val (.ref u1), .val (.int 1)] [(.int 1), (.ref ca), (.int 1), (.ref u1)])) rfl rfl (hb hby d20_19) _ u) ?_
  show oE _ _ _ _ (T3.setTop (mkF m 20 #[.val (.ref ca), .val (.int 1), .val (.int 4), .val (.ref u1), .val (.int 1)] [(.int ce1), (.int 1), (.ref u1)]))
  obtain ⟨_, _, ⟨T5, L5, k5, n5⟩, -, X5, ⟨Lc5, hQ5, l5, y5, z5⟩, st5⟩ := Jvm.LawKit.callS X3 hx (y := oM7) hown (mvT hZ (ow99 hw)) (mvT hZ (ow100 hw)) (mvT hZ (ow49 hw)) (mvT hZ (ow101 hw)) (by decide) (backOf (W := 0) (rmPC l Z a0 hw [] u1 (1 : Int32) ce1 cs_ rf_ ku1 (8 : Int32) [(.int ((ce0 >>> ((0 : Int32) &&& 31)).toInt8.toInt32)), (.int ((ce0 >>> ((8 : Int32) &&& 31)).toInt8.toInt32)), (.int (0 : Int32)), (.int (0 : Int32)), (.int (0 : Int32)), (.int (0 : Int32)), (.int (0 : Int32)), (.int (0 : Int32))] T3.heap n0 Oq3 HS Vx3 g_u1 ⟨by decide, by decide⟩ ⟨by decide, by decide⟩ (by show _ < 8; decide) (by show _ < 8; decide)) hZ (ow101 hw) (ow49 hw) (by decide) (by decide)) (g := (mkF m 20 #[.val (.ref ca), .val (.int 1), .val (.int 4), .val (.ref u1), .val (.int 1)] [(.int ce1), (.int 1), (.ref u1)])) rfl (by rw [hml]; rfl) (argsL := [(.ref u1), (.int (1 : Int32)), (.int ce1)]) (rest := []) (lenOf pd_4 rfl) rfl (by show 2 * 0 + _ ≤ _; exact Nat.le_of_eq rfl) (hb hby d20_20) (fun _ _ => ⟨rfl, rfl, (own_le rfl), (own_le rfl)⟩)
  dsimp only [Pt.U, Pt.locs, Pt.cells, Pt.slots] at X5 l5 y5 z5 st5 hQ5
  subst y5 z5
  obtain ⟨rfl, N5q, Oq5, Kq5, Vz5⟩ := hQ5
  have N5 := own_fr l5 N3 N5q
  have KK5 := KK3.trans Kq5 (allS (Or.inr sz_u1) all0)
  have Vx5 : Arv Z T5.heap u1 ku1 .byte (8 : Int32) [(.int ((ce0 >>> ((0 : Int32) &&& 31)).toInt8.toInt32)), (.int ((ce0 >>> ((8 : Int32) &&& 31)).toInt8.toInt32)), (.int ((ce1 >>> ((0 : Int32) &&& 31)).toInt8.toInt32)), (.int ((ce1 >>> ((8 : Int32) &&& 31)).toInt8.toInt32)), (.int (0 : Int32)), (.int (0 : Int32)), (.int (0 : Int32)), (.int (0 : Int32))] (.int (0 : Int32)) := Vz5
  refine oT st5 ?_
  show oE _ _ _ _ (T5.setTop (mkF m 23 #[.val (.ref ca), .val (.int 1), .val (.int 4), .val (.ref u1), .val (.int 1)] []))
  refine oT (fun _ u => XS.iinc X5.here hx rfl (hb hby d20_23) rfl (l' := #[.val (.ref ca), .val (.int (2 : Int32)), .val (.int (4 : Int32)), .val (.ref u1), .val (.int (1 : Int32))]) rfl u) ?_
  show oE _ _ _ _ (T5.setTop (mkF m 26 #[.val (.ref ca), .val (.int 2), .val (.int 4), .val (.ref u1), .val (.int 1)] []))
  refine oT (fun _ u => XS.iinc X5.here hx rfl (hb hby d20_26) rfl (l' := #[.val (.ref ca), .val (.int (2 : Int32)), .val (.int (4 : Int32)), .val (.ref u1), .val (.int (2 : Int32))]) rfl u) ?_
  show oE _ _ _ _ (T5.setTop (mkF m 29 #[.val (.ref ca), .val (.int 2), .val (.int 4), .val (.ref u1), .val (.int 2)] []))
  refine oT (fun _ u => XS.goto X5.here hx rfl (pc0 := 29) (pc' := 8) rfl (hb hby d20_29) (by decide) (by decide) u) ?_
  refine oT (fun _ u => XS.iload X5.here hx rfl (hb hby d20_8) rfl u) ?_
  refine oT (fun _ u => XS.iloadN X5.here hx rfl (hb hby d20_10) rfl u) ?_
  refine oT (fun _ u => XS.icmpNo X5.here hx rfl (hb hby d20_11) rfl (tlt (by decide)).2.1 u) ?_
  show oE _ _ _ _ (T5.setTop (mkF m 14 #[.val (.ref ca), .val (.int 2), .val (.int 4), .val (.ref u1), .val (.int 2)] []))
  refine oT (fun _ u => XS.aloadN X5.here hx rfl (hb hby d20_14) rfl rfl u) ?_
  refine oT (fun _ u => XS.iload X5.here hx rfl (hb hby d20_15) rfl u) ?_
  refine oT (fun _ u => XS.aloadN X5.here hx rfl (hb hby d20_17) rfl rfl u) ?_
  refine oT (fun _ u => XS.iloadN X5.here hx rfl (hb hby d20_18) rfl u) ?_
  obtain ⟨cl6, Ar6, q6, S6, M6, H6, G6⟩ := id (((V_c.keep Kq1 nin0).keep Kq3 (ninS ne_ca_u1 nin0)).keep Kq5 (ninS ne_ca_u1 nin0))
  have hin6 : ¬ ((2 : Int32) < 0 ∨ cl6.slots.size ≤ ((2 : Int32)).toNatClampNeg) := inb_of S6 ⟨by decide, by decide⟩
  have hat6 : cl6.slots[((2 : Int32)).toNatClampNeg]? = some (.int ce2) := Has.at H6 hin6 rfl
  refine oT (fun _ u => X5.caload hx (j := (2 : Int32)) (v := (.int ce2)) Ar6.1 (State.isArrayOf_alike hZ.alike Ar6.2.1) Ar6.2.2 hin6 hat6 (g := (mkF m 19 #[.val (.ref ca), .val (.int 2), .val (.int 4), .val (.ref u1), .val (.int 2)] [(.int 2), (.ref ca), (.int 2), (.ref u1)])) rfl rfl (hb hby d20_19) _ u) ?_
  show oE _ _ _ _ (T5.setTop (mkF m 20 #[.val (.ref ca), .val (.int 2), .val (.int 4), .val (.ref u1), .val (.int 2)] [(.int ce2), (.int 2), (.ref u1)]))
  obtain ⟨_, _, ⟨T7, L7, k7, n7⟩, -, X7, ⟨Lc7, hQ7, l7, y7, z7⟩, st7⟩ := Jvm.LawKit.callS X5 hx (y := oM7) hown (mvT hZ (ow99 hw)) (mvT hZ (ow100 hw)) (mvT hZ (ow49 hw)) (mvT hZ (ow101 hw)) (by decide) (backOf (W := 0) (rmPC l Z a0 hw [] u1 (2 : Int32) ce2 cs_ rf_ ku1 (8 : Int32) [(.int ((ce0 >>> ((0 : Int32) &&& 31)).toInt8.toInt32)), (.int ((ce0 >>> ((8 : Int32) &&& 31)).toInt8.toInt32)), (.int ((ce1 >>> ((0 : Int32) &&& 31)).toInt8.toInt32)), (.int ((ce1 >>> ((8 : Int32) &&& 31)).toInt8.toInt32)), (.int (0 : Int32)), (.int (0 : Int32)), (.int (0 : Int32)), (.int (0 : Int32))] T5.heap n0 Oq5 HS Vx5 g_u1 ⟨by decide, by decide⟩ ⟨by decide, by decide⟩ (by show _ < 8; decide) (by show _ < 8; decide)) hZ (ow101 hw) (ow49 hw) (by decide) (by decide)) (g := (mkF m 20 #[.val (.ref ca), .val (.int 2), .val (.int 4), .val (.ref u1), .val (.int 2)] [(.int ce2), (.int 2), (.ref u1)])) rfl (by rw [hml]; rfl) (argsL := [(.ref u1), (.int (2 : Int32)), (.int ce2)]) (rest := []) (lenOf pd_4 rfl) rfl (by show 2 * 0 + _ ≤ _; exact Nat.le_of_eq rfl) (hb hby d20_20) (fun _ _ => ⟨rfl, rfl, (own_le rfl), (own_le rfl)⟩)
  dsimp only [Pt.U, Pt.locs, Pt.cells, Pt.slots] at X7 l7 y7 z7 st7 hQ7
  subst y7 z7
  obtain ⟨rfl, N7q, Oq7, Kq7, Vz7⟩ := hQ7
  have N7 := own_fr l7 N5 N7q
  have KK7 := KK5.trans Kq7 (allS (Or.inr sz_u1) all0)
  have Vx7 : Arv Z T7.heap u1 ku1 .byte (8 : Int32) [(.int ((ce0 >>> ((0 : Int32) &&& 31)).toInt8.toInt32)), (.int ((ce0 >>> ((8 : Int32) &&& 31)).toInt8.toInt32)), (.int ((ce1 >>> ((0 : Int32) &&& 31)).toInt8.toInt32)), (.int ((ce1 >>> ((8 : Int32) &&& 31)).toInt8.toInt32)), (.int ((ce2 >>> ((0 : Int32) &&& 31)).toInt8.toInt32)), (.int ((ce2 >>> ((8 : Int32) &&& 31)).toInt8.toInt32)), (.int (0 : Int32)), (.int (0 : Int32))] (.int (0 : Int32)) := Vz7
  refine oT st7 ?_
  show oE _ _ _ _ (T7.setTop (mkF m 23 #[.val (.ref ca), .val (.int 2), .val (.int 4), .val (.ref u1), .val (.int 2)] []))
  refine oT (fun _ u => XS.iinc X7.here hx rfl (hb hby d20_23) rfl (l' := #[.val (.ref ca), .val (.int (3 : Int32)), .val (.int (4 : Int32)), .val (.ref u1), .val (.int (2 : Int32))]) rfl u) ?_
  show oE _ _ _ _ (T7.setTop (mkF m 26 #[.val (.ref ca), .val (.int 3), .val (.int 4), .val (.ref u1), .val (.int 2)] []))
  refine oT (fun _ u => XS.iinc X7.here hx rfl (hb hby d20_26) rfl (l' := #[.val (.ref ca), .val (.int (3 : Int32)), .val (.int (4 : Int32)), .val (.ref u1), .val (.int (3 : Int32))]) rfl u) ?_
  show oE _ _ _ _ (T7.setTop (mkF m 29 #[.val (.ref ca), .val (.int 3), .val (.int 4), .val (.ref u1), .val (.int 3)] []))
  refine oT (fun _ u => XS.goto X7.here hx rfl (pc0 := 29) (pc' := 8) rfl (hb hby d20_29) (by decide) (by decide) u) ?_
  refine oT (fun _ u => XS.iload X7.here hx rfl (hb hby d20_8) rfl u) ?_
  refine oT (fun _ u => XS.iloadN X7.here hx rfl (hb hby d20_10) rfl u) ?_
  refine oT (fun _ u => XS.icmpNo X7.here hx rfl (hb hby d20_11) rfl (tlt (by decide)).2.1 u) ?_
  show oE _ _ _ _ (T7.setTop (mkF m 14 #[.val (.ref ca), .val (.int 3), .val (.int 4), .val (.ref u1), .val (.int 3)] []))
  refine oT (fun _ u => XS.aloadN X7.here hx rfl (hb hby d20_14) rfl rfl u) ?_
  refine oT (fun _ u => XS.iload X7.here hx rfl (hb hby d20_15) rfl u) ?_
  refine oT (fun _ u => XS.aloadN X7.here hx rfl (hb hby d20_17) rfl rfl u) ?_
  refine oT (fun _ u => XS.iloadN X7.here hx rfl (hb hby d20_18) rfl u) ?_
  obtain ⟨cl8, Ar8, q8, S8, M8, H8, G8⟩ := id ((((V_c.keep Kq1 nin0).keep Kq3 (ninS ne_ca_u1 nin0)).keep Kq5 (ninS ne_ca_u1 nin0)).keep Kq7 (ninS ne_ca_u1 nin0))
  have hin8 : ¬ ((3 : Int32) < 0 ∨ cl8.slots.size ≤ ((3 : Int32)).toNatClampNeg) := inb_of S8 ⟨by decide, by decide⟩
  have hat8 : cl8.slots[((3 : Int32)).toNatClampNeg]? = some (.int ce3) := Has.at H8 hin8 rfl
  refine oT (fun _ u => X7.caload hx (j := (3 : Int32)) (v := (.int ce3)) Ar8.1 (State.isArrayOf_alike hZ.alike Ar8.2.1) Ar8.2.2 hin8 hat8 (g := (mkF m 19 #[.val (.ref ca), .val (.int 3), .val (.int 4), .val (.ref u1), .val (.int 3)] [(.int 3), (.ref ca), (.int 3), (.ref u1)])) rfl rfl (hb hby d20_19) _ u) ?_
  show oE _ _ _ _ (T7.setTop (mkF m 20 #[.val (.ref ca), .val (.int 3), .val (.int 4), .val (.ref u1), .val (.int 3)] [(.int ce3), (.int 3), (.ref u1)]))
  obtain ⟨_, _, ⟨T9, L9, k9, n9⟩, -, X9, ⟨Lc9, hQ9, l9, y9, z9⟩, st9⟩ := Jvm.LawKit.callS X7 hx (y := oM7) hown (mvT hZ (ow99 hw)) (mvT hZ (ow100 hw)) (mvT hZ (ow49 hw)) (mvT hZ (ow101 hw)) (by decide) (backOf (W := 0) (rmPC l Z a0 hw [] u1 (3 : Int32) ce3 cs_ rf_ ku1 (8 : Int32) [(.int ((ce0 >>> ((0 : Int32) &&& 31)).toInt8.toInt32)), (.int ((ce0 >>> ((8 : Int32) &&& 31)).toInt8.toInt32)), (.int ((ce1 >>> ((0 : Int32) &&& 31)).toInt8.toInt32)), (.int ((ce1 >>> ((8 : Int32) &&& 31)).toInt8.toInt32)), (.int ((ce2 >>> ((0 : Int32) &&& 31)).toInt8.toInt32)), (.int ((ce2 >>> ((8 : Int32) &&& 31)).toInt8.toInt32)), (.int (0 : Int32)), (.int (0 : Int32))] T7.heap n0 Oq7 HS Vx7 g_u1 ⟨by decide, by decide⟩ ⟨by decide, by decide⟩ (by show _ < 8; decide) (by show _ < 8; decide)) hZ (ow101 hw) (ow49 hw) (by decide) (by decide)) (g := (mkF m 20 #[.val (.ref ca), .val (.int 3), .val (.int 4), .val (.ref u1), .val (.int 3)] [(.int ce3), (.int 3), (.ref u1)])) rfl (by rw [hml]; rfl) (argsL := [(.ref u1), (.int (3 : Int32)), (.int ce3)]) (rest := []) (lenOf pd_4 rfl) rfl (by show 2 * 0 + _ ≤ _; exact Nat.le_of_eq rfl) (hb hby d20_20) (fun _ _ => ⟨rfl, rfl, (own_le rfl), (own_le rfl)⟩)
  dsimp only [Pt.U, Pt.locs, Pt.cells, Pt.slots] at X9 l9 y9 z9 st9 hQ9
  subst y9 z9
  obtain ⟨rfl, N9q, Oq9, Kq9, Vz9⟩ := hQ9
  have N9 := own_fr l9 N7 N9q
  have KK9 := KK7.trans Kq9 (allS (Or.inr sz_u1) all0)
  have Vx9 : Arv Z T9.heap u1 ku1 .byte (8 : Int32) [(.int ((ce0 >>> ((0 : Int32) &&& 31)).toInt8.toInt32)), (.int ((ce0 >>> ((8 : Int32) &&& 31)).toInt8.toInt32)), (.int ((ce1 >>> ((0 : Int32) &&& 31)).toInt8.toInt32)), (.int ((ce1 >>> ((8 : Int32) &&& 31)).toInt8.toInt32)), (.int ((ce2 >>> ((0 : Int32) &&& 31)).toInt8.toInt32)), (.int ((ce2 >>> ((8 : Int32) &&& 31)).toInt8.toInt32)), (.int ((ce3 >>> ((0 : Int32) &&& 31)).toInt8.toInt32)), (.int ((ce3 >>> ((8 : Int32) &&& 31)).toInt8.toInt32))] (.int (0 : Int32)) := Vz9
  refine oT st9 ?_
  show oE _ _ _ _ (T9.setTop (mkF m 23 #[.val (.ref ca), .val (.int 3), .val (.int 4), .val (.ref u1), .val (.int 3)] []))
  refine oT (fun _ u => XS.iinc X9.here hx rfl (hb hby d20_23) rfl (l' := #[.val (.ref ca), .val (.int (4 : Int32)), .val (.int (4 : Int32)), .val (.ref u1), .val (.int (3 : Int32))]) rfl u) ?_
  show oE _ _ _ _ (T9.setTop (mkF m 26 #[.val (.ref ca), .val (.int 4), .val (.int 4), .val (.ref u1), .val (.int 3)] []))
  refine oT (fun _ u => XS.iinc X9.here hx rfl (hb hby d20_26) rfl (l' := #[.val (.ref ca), .val (.int (4 : Int32)), .val (.int (4 : Int32)), .val (.ref u1), .val (.int (4 : Int32))]) rfl u) ?_
  show oE _ _ _ _ (T9.setTop (mkF m 29 #[.val (.ref ca), .val (.int 4), .val (.int 4), .val (.ref u1), .val (.int 4)] []))
  refine oT (fun _ u => XS.goto X9.here hx rfl (pc0 := 29) (pc' := 8) rfl (hb hby d20_29) (by decide) (by decide) u) ?_
  refine oT (fun _ u => XS.iload X9.here hx rfl (hb hby d20_8) rfl u) ?_
  refine oT (fun _ u => XS.iloadN X9.here hx rfl (hb hby d20_10) rfl u) ?_
  refine oT (fun _ u => XS.icmpYes X9.here hx rfl (pc0 := 11) (pc' := 32) rfl (hb hby d20_11) rfl (flt (by decide)).2.1 (by decide) (by decide) u) ?_
  show oE _ _ _ _ (T9.setTop (mkF m 32 #[.val (.ref ca), .val (.int 4), .val (.int 4), .val (.ref u1), .val (.int 4)] []))
  refine oT (fun _ u => XS.aloadN X9.here hx rfl (hb hby d20_32) rfl rfl u) ?_
  refine own_leave X9 (v := some (.ref u1)) (fun h => by rw [Bd.returns] at h; cases h) ?_ (by decide) (by decide) (fun fs hr => retOut X9 hx Bd.returns rfl (Or.inr (Or.inr (Or.inr (Or.inr ⟨rfl, rfl, rfl⟩)))) (hb hby d20_33) hr)
  show Q_rmTB4 Z ca cs_ rf_ kc ce0 ce1 ce2 ce3 h0 n0 _ T9.heap _
  exact ⟨u1, ku1, rfl, g_u1, sz_u1, N9, Oq9, KK9, Vx9⟩
theorem d11_0 : decode jdk_52_method_15_code 0 = .ok (.iload_n 1, 1) := by decide +kernel
theorem d11_1 : decode jdk_52_method_15_code 1 = .ok (.aload_n 0, 1) := by decide +kernel
theorem d11_2 : decode jdk_52_method_15_code 2 = .ok (.arraylength, 1) := by decide +kernel
theorem d11_3 : decode jdk_52_method_15_code 3 = .ok (.isub, 1) := by decide +kernel
theorem d11_4 : decode jdk_52_method_15_code 4 = .ok (.bipush 31, 2) := by decide +kernel
theorem d11_6 : decode jdk_52_method_15_code 6 = .ok (.iushr, 1) := by decide +kernel
theorem d11_7 : decode jdk_52_method_15_code 7 = .ok (.i2b, 1) := by decide +kernel
theorem d11_8 : decode jdk_52_method_15_code 8 = .ok (.ireturn, 1) := by decide +kernel
theorem pn_11 : plainName "java/lang/StringUTF16" = true := by first | (simp [plainName, overriddenIn]; done) | decide +kernel
theorem ef_rmCF (m : MethodId) (da : Addr) (n : Int32) : entryFrame m #[(.ref da), (.int n)] 2 = mkF m 0 #[.val (.ref da), .val (.int n)] [] := by first | (simp [entryFrame, mkF, argsToLocals, Value.category]; done) | rfl | (rcases ref_cases hrf with rfl | ⟨q, rfl⟩ <;> rfl)
def Q_rmCF (Z : State) (da : Addr) (n : Int32) (cs_ : Int32) (rf_ : Value) (kd : ClassId) (z : Int32) (vs : List Value) (h0 : Heap) (n0 : Nat) (v : Option Value) (h : Heap) (L : List Loc) : Prop := v = some (.int (nar .byte ((((n - z).toUInt32 >>> ((31 : Int32) &&& 31).toUInt32).toInt32).toInt8.toInt32))) ∧ Fr n0 L ∧ h = h0
theorem rmCF (l : Launch) (Z : State) (a0 : Array Value) (hw : ∀ d ∈ tables_1, d.before a0 Z = true) (ws : List Jvm.Cond) (da : Addr) (n : Int32) (cs_ : Int32) (rf_ : Value) (kd : ClassId) (z : Int32) (vs : List Value) (h0 : Heap) (n0 : Nat) (O0 : Old Z n0 h0) (V_d : Arv Z h0 da kd .byte z vs (.int (0 : Int32))) :
    MetFree l oM12 (head1 (Jvm.Cond.code oM12 jdk_52_method_15_code 2 (some .byte) :: ws) ({ frames := 0, cells := 0, slots := 0, locals := 0 } : Room)) (fun aq_ U => aq_ = #[(.ref da), (.int n)] ∧ Z.Warmed39 U.vm ∧ U.heap = h0) (fun _ _ _ _ _ => True) (fun _ U o U' => ∃ v L, o = .returned v ∧ Q_rmCF Z da n cs_ rf_ kd z vs h0 n0 v U'.heap L ∧ FrameEnd U o U' L 0 0) := by
  refine MetFree.of_bodySF (plainFor_of_name pn_11) hisR ?_
  intro p e s m args below meth c s₁ Bd hml0 hP hK
  obtain ⟨rfl, hZ, hh⟩ := hP
  have hx := Bd.exec
  have hby := Bd.bytes
  have hml : c.maxLocals = 2 := hml0
  have hown : s.vm.findClass "java/lang/StringUTF16" = some m.cls := findClass_of_methodNamed Bd.named
  have hnm := (name_of_methodNamed Bd.named Bd.method).1
  have X0 : Stand p l e ({ frames := 0, cells := 0, slots := 0, locals := 0 } : Room) s m #[(.ref da), (.int n)] below meth c s₁ [] 0 0 := Stand.of_body Bd
  have e0 : s₁.heap = h0 := by rw [← hh, Bd.state]; rfl
  have N0 := Fr.nil n0
  show oE p.tables e below (own_P s (Q_rmCF Z da n cs_ rf_ kd z vs h0 n0) 0 0) _
  refine own_cast (ef_rmCF m da n) ?_
  show oE _ _ _ _ (s₁.setTop (mkF m 0 #[.val (.ref da), .val (.int n)] []))
  refine oT (fun _ u => XS.iloadN X0.here hx rfl (hb hby d11_0) rfl u) ?_
  refine oT (fun _ u => XS.aloadN X0.here hx rfl (hb hby d11_1) rfl rfl u) ?_
  obtain ⟨cl1, Ar1, q1, S1, M1, -, -⟩ := id V_d
  refine oT (fun _ u => X0.arraylength hx (by rw [e0]; exact Ar1.1) (State.isArrayOf_alike hZ.alike Ar1.2.1) (g := (mkF m 2 #[.val (.ref da), .val (.int n)] [(.ref da), (.int n)])) rfl rfl (hb hby d11_2) _ u) ?_
  rw [len_of S1 M1]
  show oE _ _ _ _ (s₁.setTop (mkF m 3 #[.val (.ref da), .val (.int n)] [(.int z), (.int n)]))
  refine oT (fun _ u => XS.isub X0.here hx rfl (hb hby d11_3) rfl u) ?_
  refine oT (fun _ u => XS.bipush X0.here hx rfl (hb hby d11_4) u) ?_
  refine oT (fun _ u => XS.iushr X0.here hx rfl (hb hby d11_6) rfl u) ?_
  show oE _ _ _ _ (s₁.setTop (mkF m 7 #[.val (.ref da), .val (.int n)] [(.int (((n - z).toUInt32 >>> ((31 : Int32) &&& 31).toUInt32).toInt32))]))
  refine oT (fun _ u => XS.i2b X0.here hx rfl (hb hby d11_7) rfl u) ?_
  refine own_leave X0 (v := some (.int (nar .byte ((((n - z).toUInt32 >>> ((31 : Int32) &&& 31).toUInt32).toInt32).toInt8.toInt32)))) (fun h => by rw [Bd.returns] at h; cases h) ?_ (by decide) (by decide) (fun fs hr => retN X0 hx (t := .byte) Bd.returns (by simp) (hb hby d11_8) hr)
  show Q_rmCF Z da n cs_ rf_ kd z vs h0 n0 _ s₁.heap _
  rw [e0]
  exact ⟨rfl, N0, rfl⟩
theorem d10_0 : decode jdk_52_method_21_code 0 = .ok (.iconst 0, 1) := by decide +kernel
theorem d10_1 : decode jdk_52_method_21_code 1 = .ok (.istore 5, 2) := by decide +kernel
theorem d10_3 : decode jdk_52_method_21_code 3 = .ok (.iload 5, 2) := by decide +kernel
theorem d10_5 : decode jdk_52_method_21_code 5 = .ok (.iload 4, 2) := by decide +kernel
theorem d10_7 : decode jdk_52_method_21_code 7 = .ok (.if_icmp .ge 37, 3) := by decide +kernel
theorem d10_10 : decode jdk_52_method_21_code 10 = .ok (.aload_n 0, 1) := by decide +kernel
theorem d10_11 : decode jdk_52_method_21_code 11 = .ok (.iload_n 1, 1) := by decide +kernel
theorem d10_12 : decode jdk_52_method_21_code 12 = .ok (.caload, 1) := by decide +kernel
theorem d10_13 : decode jdk_52_method_21_code 13 = .ok (.istore 6, 2) := by decide +kernel
theorem d10_15 : decode jdk_52_method_21_code 15 = .ok (.iload 6, 2) := by decide +kernel
theorem d10_17 : decode jdk_52_method_21_code 17 = .ok (.sipush 255, 3) := by decide +kernel
theorem d10_20 : decode jdk_52_method_21_code 20 = .ok (.if_icmp .le 6, 3) := by decide +kernel
theorem d10_23 : decode jdk_52_method_21_code 23 = .ok (.iload 5, 2) := by decide +kernel
theorem d10_25 : decode jdk_52_method_21_code 25 = .ok (.ireturn, 1) := by decide +kernel
theorem d10_26 : decode jdk_52_method_21_code 26 = .ok (.aload_n 2, 1) := by decide +kernel
theorem d10_27 : decode jdk_52_method_21_code 27 = .ok (.iload_n 3, 1) := by decide +kernel
theorem d10_28 : decode jdk_52_method_21_code 28 = .ok (.iload 6, 2) := by decide +kernel
theorem d10_30 : decode jdk_52_method_21_code 30 = .ok (.i2b, 1) := by decide +kernel
theorem d10_31 : decode jdk_52_method_21_code 31 = .ok (.bastore, 1) := by decide +kernel
theorem d10_32 : decode jdk_52_method_21_code 32 = .ok (.iinc 1 1, 3) := by decide +kernel
theorem d10_35 : decode jdk_52_method_21_code 35 = .ok (.iinc 3 1, 3) := by decide +kernel
theorem d10_38 : decode jdk_52_method_21_code 38 = .ok (.iinc 5 1, 3) := by decide +kernel
theorem d10_41 : decode jdk_52_method_21_code 41 = .ok (.goto (-38), 3) := by decide +kernel
theorem d10_44 : decode jdk_52_method_21_code 44 = .ok (.iload 4, 2) := by decide +kernel
theorem d10_46 : decode jdk_52_method_21_code 46 = .ok (.ireturn, 1) := by decide +kernel
theorem pn_10 : plainName "java/lang/StringUTF16" = true := by first | (simp [plainName, overriddenIn]; done) | decide +kernel
theorem ef_cp2_1 (m : MethodId) (ca : Addr) (da : Addr) (kc : ClassId) (kd : ClassId) (ce0 : Int32) : entryFrame m #[(.ref ca), (.int (0 : Int32)), (.ref da), (.int (0 : Int32)), (.int (1 : Int32))] 7 = mkF m 0 #[.val (.ref ca), .val (.int (0 : Int32)), .val (.ref da), .val (.int (0 : Int32)), .val (.int (1 : Int32)), .unset, .unset] [] := by first | (simp [entryFrame, mkF, argsToLocals, Value.category]; done) | rfl | (rcases ref_cases hrf with rfl | ⟨q, rfl⟩ <;> rfl)
def Q_cp2_1 (Z : State) (ca : Addr) (da : Addr) (kc : ClassId) (kd : ClassId) (ce0 : Int32) (h0 : Heap) (n0 : Nat) (v : Option Value) (h : Heap) (L : List Loc) : Prop := (v = some (.int (1 : Int32)) ∧ Fr n0 L ∧ Old Z n0 h ∧ Keep h0 h [da] ∧ Arv Z h da kd .byte (1 : Int32) [(.int (ce0.toInt8.toInt32))] (.int (0 : Int32)) ∧ ¬ (255 : Int32) < ce0) ∨ (v = some (.int (0 : Int32)) ∧ Fr n0 L ∧ Old Z n0 h ∧ Keep h0 h [da] ∧ (255 : Int32) < ce0)
theorem cp2_1 (l : Launch) (Z : State) (a0 : Array Value) (hw : ∀ d ∈ tables_1, d.before a0 Z = true) (ws : List Jvm.Cond) (ca : Addr) (da : Addr) (kc : ClassId) (kd : ClassId) (ce0 : Int32) (h0 : Heap) (n0 : Nat) (O0 : Old Z n0 h0) (V_c : Arv Z h0 ca kc .char (1 : Int32) [(.int ce0)] (.int (0 : Int32))) (V_d : Arv Z h0 da kd .byte (1 : Int32) [(.int (0 : Int32))] (.int (0 : Int32))) (g_da : n0 ≤ da) (ne_ca_da : ca ≠ da) :
    MetFree l oM13 (head1 (Jvm.Cond.code oM13 jdk_52_method_21_code 7 (some .int) :: ws) ({ frames := 0, cells := 0, slots := 0, locals := 0 } : Room)) (fun aq_ U => aq_ = #[(.ref ca), (.int (0 : Int32)), (.ref da), (.int (0 : Int32)), (.int (1 : Int32))] ∧ Z.Warmed39 U.vm ∧ U.heap = h0) (fun _ _ _ _ _ => True) (fun _ U o U' => ∃ v L, o = .returned v ∧ Q_cp2_1 Z ca da kc kd ce0 h0 n0 v U'.heap L ∧ FrameEnd U o U' L 0 0) := by
  refine MetFree.of_bodySF (plainFor_of_name pn_10) hisR ?_
  intro p e s m args below meth c s₁ Bd hml0 hP hK
  obtain ⟨rfl, hZ, hh⟩ := hP
  have hx := Bd.exec
  have hby := Bd.bytes
  have hml : c.maxLocals = 7 := hml0
  have hown : s.vm.findClass "java/lang/StringUTF16" = some m.cls := findClass_of_methodNamed Bd.named
  have hnm := (name_of_methodNamed Bd.named Bd.method).1
  have X0 : Stand p l e ({ frames := 0, cells := 0, slots := 0, locals := 0 } : Room) s m #[(.ref ca), (.int (0 : Int32)), (.ref da), (.int (0 : Int32)), (.int (1 : Int32))] below meth c s₁ [] 0 0 := Stand.of_body Bd
  have e0 : s₁.heap = h0 := by rw [← hh, Bd.state]; rfl
  have N0 := Fr.nil n0
  show oE p.tables e below (own_P s (Q_cp2_1 Z ca da kc kd ce0 h0 n0) 0 0) _
  refine own_cast (ef_cp2_1 m ca da kc kd ce0) ?_
  have K0 := Keep.refl h0 [da]
  show oE _ _ _ _ (s₁.setTop (mkF m 0 #[.val (.ref ca), .val (.int 0), .val (.ref da), .val (.int 0), .val (.int 1), .unset, .unset] []))
  refine oT (fun _ u => XS.iconst X0.here hx rfl (hb hby d10_0) u) ?_
  refine oT (fun _ u => XS.istore X0.here hx rfl (hb hby d10_1) rfl (l' := #[.val (.ref ca), .val (.int (0 : Int32)), .val (.ref da), .val (.int (0 : Int32)), .val (.int (1 : Int32)), .val (.int (0 : Int32)), .unset]) rfl u) ?_
  refine oT (fun _ u => XS.iload X0.here hx rfl (hb hby d10_3) rfl u) ?_
  refine oT (fun _ u => XS.iload X0.here hx rfl (hb hby d10_5) rfl u) ?_
  refine oT (fun _ u => XS.icmpNo X0.here hx rfl (hb hby d10_7) rfl (tlt (by decide)).2.1 u) ?_
  show oE _ _ _ _ (s₁.setTop (mkF m 10 #[.val (.ref ca), .val (.int 0), .val (.ref da), .val (.int 0), .val (.int 1), .val (.int 0), .unset] []))
  refine oT (fun _ u => XS.aloadN X0.here hx rfl (hb hby d10_10) rfl rfl u) ?_
  refine oT (fun _ u => XS.iloadN X0.here hx rfl (hb hby d10_11) rfl u) ?_
  obtain ⟨cl1, Ar1, q1, S1, M1, H1, G1⟩ := id V_c
  have hin1 : ¬ ((0 : Int32) < 0 ∨ cl1.slots.size ≤ ((0 : Int32)).toNatClampNeg) := inb_of S1 ⟨by decide, by decide⟩
  have hat1 : cl1.slots[((0 : Int32)).toNatClampNeg]? = some (.int ce0) := Has.at H1 hin1 rfl
  refine oT (fun _ u => X0.caload hx (j := (0 : Int32)) (v := (.int ce0)) (by rw [e0]; exact Ar1.1) (State.isArrayOf_alike hZ.alike Ar1.2.1) Ar1.2.2 hin1 hat1 (g := (mkF m 12 #[.val (.ref ca), .val (.int 0), .val (.ref da), .val (.int 0), .val (.int 1), .val (.int 0), .unset] [(.int 0), (.ref ca)])) rfl rfl (hb hby d10_12) _ u) ?_
  show oE _ _ _ _ (s₁.setTop (mkF m 13 #[.val (.ref ca), .val (.int 0), .val (.ref da), .val (.int 0), .val (.int 1), .val (.int 0), .unset] [(.int ce0)]))
  refine oT (fun _ u => XS.istore X0.here hx rfl (hb hby d10_13) rfl (l' := #[.val (.ref ca), .val (.int (0 : Int32)), .val (.ref da), .val (.int (0 : Int32)), .val (.int (1 : Int32)), .val (.int (0 : Int32)), .val (.int ce0)]) rfl u) ?_
  refine oT (fun _ u => XS.iload X0.here hx rfl (hb hby d10_15) rfl u) ?_
  refine oT (fun _ u => XS.sipush X0.here hx rfl (hb hby d10_17) u) ?_
  by_cases hc20_2 : (255 : Int32) < ce0
  · -- pc 20: (255 : Int32) < ce0
    refine oT (fun _ u => XS.icmpNo X0.here hx rfl (hb hby d10_20) rfl (tlt hc20_2).2.2.2 u) ?_
    show oE _ _ _ _ (s₁.setTop (mkF m 23 #[.val (.ref ca), .val (.int 0), .val (.ref da), .val (.int 0), .val (.int 1), .val (.int 0), .val (.int ce0)] []))
    refine oT (fun _ u => XS.iload X0.here hx rfl (hb hby d10_23) rfl u) ?_
    refine own_leave X0 (v := some (.int (0 : Int32))) (fun h => by rw [Bd.returns] at h; cases h) ?_ (by decide) (by decide) (fun fs hr => retOut X0 hx Bd.returns rfl (Or.inl ⟨rfl, Or.inl rfl, _, rfl⟩) (hb hby d10_25) hr)
    show Q_cp2_1 Z ca da kc kd ce0 h0 n0 _ s₁.heap _
    rw [e0]
    exact Or.inr (⟨rfl, N0, O0, K0, hc20_2⟩)
  · -- pc 20: not (255 : Int32) < ce0
    refine oT (fun _ u => XS.icmpYes X0.here hx rfl (pc0 := 20) (pc' := 26) rfl (hb hby d10_20) rfl (flt hc20_2).2.2.2 (by decide) (by decide) u) ?_
    show oE _ _ _ _ (s₁.setTop (mkF m 26 #[.val (.ref ca), .val (.int 0), .val (.ref da), .val (.int 0), .val (.int 1), .val (.int 0), .val (.int ce0)] []))
    refine oT (fun _ u => XS.aloadN X0.here hx rfl (hb hby d10_26) rfl rfl u) ?_
    refine oT (fun _ u => XS.iloadN X0.here hx rfl (hb hby d10_27) rfl u) ?_
    refine oT (fun _ u => XS.iload X0.here hx rfl (hb hby d10_28) rfl u) ?_
    refine oT (fun _ u => XS.i2b X0.here hx rfl (hb hby d10_30) rfl u) ?_
    obtain ⟨cl3, Ar3, q3, S3, M3, H3, G3⟩ := id V_d
    have hin3 : ¬ ((0 : Int32) < 0 ∨ cl3.slots.size ≤ ((0 : Int32)).toNatClampNeg) := inb_of S3 ⟨by decide, by decide⟩
    obtain ⟨T3, h3, X3, e3, W3, st3⟩ := stB X0 hx hZ e0 Ar3 (j := (0 : Int32)) hin3 (g := (mkF m 31 #[.val (.ref ca), .val (.int 0), .val (.ref da), .val (.int 0), .val (.int 1), .val (.int 0), .val (.int ce0)] [(.int (ce0.toInt8.toInt32)), (.int 0), (.ref da)])) rfl rfl (hb hby d10_31)
    have Vs3 : Arv Z h3 da kd .byte (1 : Int32) [(.int (nar .byte (ce0.toInt8.toInt32)))] (.int (0 : Int32)) := Arv.set Ar3 q3 S3 M3 H3 G3 (fits_nar_byte _) W3 0 rfl (own_lt rfl)
    rw [show (nar .byte (ce0.toInt8.toInt32)) = (ce0.toInt8.toInt32) from (own_nb _)] at Vs3
    refine oT st3 ?_
    have O3 := O0.wr W3 g_da
    have N3 := Fr.snoc X3 N0 g_da
    have K3 := K0.wr W3 (Or.inl (List.mem_of_getElem? (i := 0) rfl))
    show oE _ _ _ _ (T3.setTop (mkF m 32 #[.val (.ref ca), .val (.int 0), .val (.ref da), .val (.int 0), .val (.int 1), .val (.int 0), .val (.int ce0)] []))
    refine oT (fun _ u => XS.iinc X3.here hx rfl (hb hby d10_32) rfl (l' := #[.val (.ref ca), .val (.int (1 : Int32)), .val (.ref da), .val (.int (0 : Int32)), .val (.int (1 : Int32)), .val (.int (0 : Int32)), .val (.int ce0)]) rfl u) ?_
    show oE _ _ _ _ (T3.setTop (mkF m 35 #[.val (.ref ca), .val (.int 1), .val (.ref da), .val (.int 0), .val (.int 1), .val (.int 0), .val (.int ce0)] []))
    refine oT (fun _ u => XS.iinc X3.here hx rfl (hb hby d10_35) rfl (l' := #[.val (.ref ca), .val (.int (1 : Int32)), .val (.ref da), .val (.int (1 : Int32)), .val (.int (1 : Int32)), .val (.int (0 : Int32)), .val (.int ce0)]) rfl u) ?_
    show oE _ _ _ _ (T3.setTop (mkF m 38 #[.val (.ref ca), .val (.int 1), .val (.ref da), .val (.int 1), .val (.int 1), .val (.int 0), .val (.int ce0)] []))
    refine oT (fun _ u => XS.iinc X3.here hx rfl (hb hby d10_38) rfl (l' := #[.val (.ref ca), .val (.int (1 : Int32)), .val (.ref da), .val (.int (1 : Int32)), .val (.int (1 : Int32)), .val (.int (1 : Int32)), .val (.int ce0)]) rfl u) ?_
    show oE _ _ _ _ (T3.setTop (mkF m 41 #[.val (.ref ca), .val (.int 1), .val (.ref da), .val (.int 1), .val (.int 1), .val (.int 1), .val (.int ce0)] []))
    refine oT (fun _ u => XS.goto X3.here hx rfl (pc0 := 41) (pc' := 3) rfl (hb hby d10_41) (by decide) (by decide) u) ?_
    refine oT (fun _ u => XS.iload X3.here hx rfl (hb hby d10_3) rfl u) ?_
    refine oT (fun _ u => XS.iload X3.here hx rfl (hb hby d10_5) rfl u) ?_
    refine oT (fun _ u => XS.icmpYes X3.here hx rfl (pc0 := 7) (pc' := 44) rfl (hb hby d10_7) rfl (flt (by decide)).2.1 (by decide) (by decide) u) ?_
    show oE _ _ _ _ (T3.setTop (mkF m 44 #[.val (.ref ca), .val (.int 1), .val (.ref da), .val (.int 1), .val (.int 1), .val (.int 1), .val (.int ce0)] []))
    refine oT (fun _ u => XS.iload X3.here hx rfl (hb hby d10_44) rfl u) ?_
    refine own_leave X3 (v := some (.int (1 : Int32))) (fun h => by rw [Bd.returns] at h; cases h) ?_ (by decide) (by decide) (fun fs hr => retOut X3 hx Bd.returns rfl (Or.inl ⟨rfl, Or.inl rfl, _, rfl⟩) (hb hby d10_46) hr)
    show Q_cp2_1 Z ca da kc kd ce0 h0 n0 _ T3.heap _
    rw [e3]
    exact Or.inl ⟨rfl, N3, O3, K3, Vs3, hc20_2⟩
theorem d9_0 : decode jdk_52_method_16_code 0 = .ok (.iload_n 2, 1) := by decide +kernel
theorem d9_1 : decode jdk_52_method_16_code 1 = .ok (.newarray .byte, 2) := by decide +kernel
theorem d9_3 : decode jdk_52_method_16_code 3 = .ok (.astore_n 3, 1) := by decide +kernel
theorem d9_4 : decode jdk_52_method_16_code 4 = .ok (.aload_n 0, 1) := by decide +kernel
theorem d9_5 : decode jdk_52_method_16_code 5 = .ok (.iload_n 1, 1) := by decide +kernel
theorem d9_6 : decode jdk_52_method_16_code 6 = .ok (.aload_n 3, 1) := by decide +kernel
theorem d9_7 : decode jdk_52_method_16_code 7 = .ok (.iconst 0, 1) := by decide +kernel
theorem d9_8 : decode jdk_52_method_16_code 8 = .ok (.iload_n 2, 1) := by decide +kernel
theorem d9_9 : decode jdk_52_method_16_code 9 = .ok (.invokestatic 115, 3) := by decide +kernel
theorem d9_12 : decode jdk_52_method_16_code 12 = .ok (.istore 4, 2) := by decide +kernel
theorem d9_14 : decode jdk_52_method_16_code 14 = .ok (.iload 4, 2) := by decide +kernel
theorem d9_16 : decode jdk_52_method_16_code 16 = .ok (.iload_n 2, 1) := by decide +kernel
theorem d9_17 : decode jdk_52_method_16_code 17 = .ok (.if_icmp .eq 40, 3) := by decide +kernel
theorem d9_20 : decode jdk_52_method_16_code 20 = .ok (.aload_n 0, 1) := by decide +kernel
theorem d9_21 : decode jdk_52_method_16_code 21 = .ok (.iload_n 1, 1) := by decide +kernel
theorem d9_22 : decode jdk_52_method_16_code 22 = .ok (.iload_n 2, 1) := by decide +kernel
theorem d9_23 : decode jdk_52_method_16_code 23 = .ok (.invokestatic 119, 3) := by decide +kernel
theorem d9_26 : decode jdk_52_method_16_code 26 = .ok (.astore 5, 2) := by decide +kernel
theorem d9_28 : decode jdk_52_method_16_code 28 = .ok (.aload 5, 2) := by decide +kernel
theorem d9_30 : decode jdk_52_method_16_code 30 = .ok (.iload 4, 2) := by decide +kernel
theorem d9_32 : decode jdk_52_method_16_code 32 = .ok (.invokestatic 71, 3) := by decide +kernel
theorem d9_35 : decode jdk_52_method_16_code 35 = .ok (.sipush 255, 3) := by decide +kernel
theorem d9_38 : decode jdk_52_method_16_code 38 = .ok (.if_icmp .gt 16, 3) := by decide +kernel
theorem d9_54 : decode jdk_52_method_16_code 54 = .ok (.aload 5, 2) := by decide +kernel
theorem d9_56 : decode jdk_52_method_16_code 56 = .ok (.areturn, 1) := by decide +kernel
theorem d9_57 : decode jdk_52_method_16_code 57 = .ok (.aload_n 3, 1) := by decide +kernel
theorem d9_58 : decode jdk_52_method_16_code 58 = .ok (.areturn, 1) := by decide +kernel
theorem pn_9 : plainName "java/lang/StringUTF16" = true := by first | (simp [plainName, overriddenIn]; done) | decide +kernel
theorem pd_5 : parseMethodDescriptor "([CI[BII)I" = some ⟨[(.array .char), .int, (.array .byte), .int, .int], some .int⟩ := by decide +kernel
theorem pd_6 : parseMethodDescriptor "([CII)[B" = some ⟨[(.array .char), .int, .int], some (.array .byte)⟩ := by decide +kernel
theorem pd_7 : parseMethodDescriptor "([BI)C" = some ⟨[(.array .byte), .int], some .char⟩ := by decide +kernel
theorem ef_cp1_1 (m : MethodId) (ca : Addr) (cs_ : Int32) (rf_ : Value) (kc : ClassId) (ce0 : Int32) : entryFrame m #[(.ref ca), (.int (0 : Int32)), (.int (1 : Int32))] 6 = mkF m 0 #[.val (.ref ca), .val (.int (0 : Int32)), .val (.int (1 : Int32)), .unset, .unset, .unset] [] := by first | (simp [entryFrame, mkF, argsToLocals, Value.category]; done) | rfl | (rcases ref_cases hrf with rfl | ⟨q, rfl⟩ <;> rfl)
def Q_cp1_1 (Z : State) (ca : Addr) (cs_ : Int32) (rf_ : Value) (kc : ClassId) (ce0 : Int32) (h0 : Heap) (n0 : Nat) (v : Option Value) (h : Heap) (L : List Loc) : Prop := (∃ (b : Addr) (kb : ClassId), v = some (.ref b) ∧ n0 ≤ b ∧ h0.size ≤ b ∧ Fr n0 L ∧ Old Z n0 h ∧ Keep h0 h [] ∧ Arv Z h b kb .byte (1 : Int32) [(.int (ce0.toInt8.toInt32))] (.int (0 : Int32)) ∧ ¬ (255 : Int32) < ce0) ∨ (∃ (b : Addr) (kb : ClassId), v = some (.ref b) ∧ n0 ≤ b ∧ h0.size ≤ b ∧ Fr n0 L ∧ Old Z n0 h ∧ Keep h0 h [] ∧ Arv Z h b kb .byte (2 : Int32) [(.int ((ce0 >>> ((0 : Int32) &&& 31)).toInt8.toInt32)), (.int ((ce0 >>> ((8 : Int32) &&& 31)).toInt8.toInt32))] (.int (0 : Int32)))
theorem cp1_1 (l : Launch) (Z : State) (a0 : Array Value) (hw : ∀ d ∈ tables_1, d.before a0 Z = true) (ws : List Jvm.Cond) (ca : Addr) (cs_ : Int32) (rf_ : Value) (kc : ClassId) (ce0 : Int32) (h0 : Heap) (n0 : Nat) (O0 : Old Z n0 h0) (HS : own_HS Z cs_ rf_) (V_c : Arv Z h0 ca kc .char (1 : Int32) [(.int ce0)] (.int (0 : Int32))) (HE0 : own_Ch ce0) :
    MetFree l oM14 (head1 (Jvm.Cond.code oM14 jdk_52_method_16_code 6 (some (.array .byte)) :: ws) ({ frames := 3, cells := 2, slots := 3, locals := 58 } : Room)) (fun aq_ U => aq_ = #[(.ref ca), (.int (0 : Int32)), (.int (1 : Int32))] ∧ Z.Warmed39 U.vm ∧ U.heap = h0) (fun _ _ _ _ _ => True) (fun _ U o U' => ∃ v L, o = .returned v ∧ Q_cp1_1 Z ca cs_ rf_ kc ce0 h0 n0 v U'.heap L ∧ FrameEnd U o U' L 2 3) := by
  refine MetFree.of_bodySF (plainFor_of_name pn_9) hisR ?_
  intro p e s m args below meth c s₁ Bd hml0 hP hK
  obtain ⟨rfl, hZ, hh⟩ := hP
  have hx := Bd.exec
  have hby := Bd.bytes
  have hml : c.maxLocals = 6 := hml0
  have hown : s.vm.findClass "java/lang/StringUTF16" = some m.cls := findClass_of_methodNamed Bd.named
  have hnm := (name_of_methodNamed Bd.named Bd.method).1
  have X0 : Stand p l e ({ frames := 3, cells := 2, slots := 3, locals := 58 } : Room) s m #[(.ref ca), (.int (0 : Int32)), (.int (1 : Int32))] below meth c s₁ [] 0 0 := Stand.of_body Bd
  have e0 : s₁.heap = h0 := by rw [← hh, Bd.state]; rfl
  have N0 := Fr.nil n0
  show oE p.tables e below (own_P s (Q_cp1_1 Z ca cs_ rf_ kc ce0 h0 n0) 2 3) _
  refine own_cast (ef_cp1_1 m ca cs_ rf_ kc ce0) ?_
  have K0 := Keep.refl h0 []
  show oE _ _ _ _ (s₁.setTop (mkF m 0 #[.val (.ref ca), .val (.int 0), .val (.int 1), .unset, .unset, .unset] []))
  refine oT (fun _ u => XS.iloadN X0.here hx rfl (hb hby d9_0) rfl u) ?_
  obtain ⟨T1, h1, k1, X1, e1, E1, A1, st1⟩ := newP X0 hx hZ (aty := .byte) (ow25 hw) e0 (g := (mkF m 1 #[.val (.ref ca), .val (.int 0), .val (.int 1), .unset, .unset, .unset] [(.int 1)])) rfl (hb hby d9_1) rfl (by decide) (cap := 1) (by decide) (by decide) (by decide) (by decide)
  obtain ⟨b1, g1⟩ : ∃ z, z = h0.size := ⟨_, rfl⟩
  rw [← g1] at A1 st1
  have ne_ca_b1 : ca ≠ b1 := Nat.ne_of_lt (Nat.lt_of_lt_of_le V_c.lt (Nat.le_of_eq g1.symm))
  have g_b1 : n0 ≤ b1 := Nat.le_trans (own_old_le O0) (Nat.le_of_eq g1.symm)
  have sz_b1 : h0.size ≤ b1 := Nat.le_trans K0.1 (Nat.le_of_eq g1.symm)
  refine oT st1 ?_
  have O1 := O0.ext E1
  have K1 := K0.ext E1
  have Vn1 : Arv Z h1 b1 k1 .byte (1 : Int32) [(.int (0 : Int32))] (.int (0 : Int32)) := (Arv.new A1 (by decide)).pad (pad_rep [] (.int (0 : Int32)) 1)
  show oE _ _ _ _ (T1.setTop (mkF m 3 #[.val (.ref ca), .val (.int 0), .val (.int 1), .unset, .unset, .unset] [(.ref b1)]))
  refine oT (fun _ u => XS.astoreN X1.here hx rfl (hb hby d9_3) rfl rfl (l' := #[.val (.ref ca), .val (.int (0 : Int32)), .val (.int (1 : Int32)), .val (.ref b1), .unset, .unset]) rfl u) ?_
  refine oT (fun _ u => XS.aloadN X1.here hx rfl (hb hby d9_4) rfl rfl u) ?_
  refine oT (fun _ u => XS.iloadN X1.here hx rfl (hb hby d9_5) rfl u) ?_
  refine oT (fun _ u => XS.aloadN X1.here hx rfl (hb hby d9_6) rfl rfl u) ?_
  refine oT (fun _ u => XS.iconst X1.here hx rfl (hb hby d9_7) u) ?_
  refine oT (fun _ u => XS.iloadN X1.here hx rfl (hb hby d9_8) rfl u) ?_
  show oE _ _ _ _ (T1.setTop (mkF m 9 #[.val (.ref ca), .val (.int 0), .val (.int 1), .val (.ref b1), .unset, .unset] [(.int 1), (.int 0), (.ref b1), (.int 0), (.ref ca)]))
  obtain ⟨_, _, ⟨T2, L2, k2, n2⟩, -, X2, ⟨Lc2, hQ2, l2, y2, z2⟩, st2⟩ := Jvm.LawKit.callS X1 hx (y := oM13) hown (mvT hZ (ow51 hw)) (mvT hZ (ow52 hw)) (mvT hZ (ow49 hw)) (mvT hZ (ow53 hw)) (by decide) (backOf (W := 0) (cp2_1 l Z a0 hw [] ca b1 kc k1 ce0 h1 n0 O1 (V_c.ext E1) Vn1 g_b1 ne_ca_b1) hZ (ow53 hw) (ow49 hw) (by decide) (by decide)) (g := (mkF m 9 #[.val (.ref ca), .val (.int 0), .val (.int 1), .val (.ref b1), .unset, .unset] [(.int 1), (.int 0), (.ref b1), (.int 0), (.ref ca)])) rfl (by rw [hml]; rfl) (argsL := [(.ref ca), (.int (0 : Int32)), (.ref b1), (.int (0 : Int32)), (.int (1 : Int32))]) (rest := []) (lenOf pd_5 rfl) rfl (by show 2 * 0 + _ ≤ _; exact Nat.le_of_eq rfl) (hb hby d9_9) (fun _ _ => ⟨rfl, e1, (own_le rfl), (own_le rfl)⟩)
  dsimp only [Pt.U, Pt.locs, Pt.cells, Pt.slots] at X2 l2 y2 z2 st2 hQ2
  subst y2 z2
  rcases hQ2 with ⟨rfl, N2q, Oq2, Kq2, Vx2, le0⟩ | ⟨rfl, N2q, Oq2, Kq2, gt0⟩
  · skip
    refine oT st2 ?_
    show oE _ _ _ _ (T2.setTop (mkF m 12 #[.val (.ref ca), .val (.int 0), .val (.int 1), .val (.ref b1), .unset, .unset] [(.int 1)]))
    have N2 := own_fr l2 N0 N2q
    have KK2 := K1.trans Kq2 (allS (Or.inr sz_b1) all0)
    show oE _ _ _ _ (T2.setTop (mkF m 12 #[.val (.ref ca), .val (.int 0), .val (.int 1), .val (.ref b1), .unset, .unset] [(.int 1)]))
    refine oT (fun _ u => XS.istore X2.here hx rfl (hb hby d9_12) rfl (l' := #[.val (.ref ca), .val (.int (0 : Int32)), .val (.int (1 : Int32)), .val (.ref b1), .val (.int (1 : Int32)), .unset]) rfl u) ?_
    refine oT (fun _ u => XS.iload X2.here hx rfl (hb hby d9_14) rfl u) ?_
    refine oT (fun _ u => XS.iloadN X2.here hx rfl (hb hby d9_16) rfl u) ?_
    refine oT (fun _ u => XS.icmpYes X2.here hx rfl (pc0 := 17) (pc' := 57) rfl (hb hby d9_17) rfl (teq (by decide)).1 (by decide) (by decide) u) ?_
    show oE _ _ _ _ (T2.setTop (mkF m 57 #[.val (.ref ca), .val (.int 0), .val (.int 1), .val (.ref b1), .val (.int 1), .unset] []))
    refine oT (fun _ u => XS.aloadN X2.here hx rfl (hb hby d9_57) rfl rfl u) ?_
    refine own_leave X2 (v := some (.ref b1)) (fun h => by rw [Bd.returns] at h; cases h) ?_ (by decide) (by decide) (fun fs hr => retOut X2 hx Bd.returns rfl (Or.inr (Or.inr (Or.inr (Or.inr ⟨rfl, rfl, rfl⟩)))) (hb hby d9_58) hr)
    show Q_cp1_1 Z ca cs_ rf_ kc ce0 h0 n0 _ T2.heap _
    exact Or.inl ⟨b1, k1, rfl, g_b1, sz_b1, N2, Oq2, KK2, Vx2, le0⟩
  · skip
    refine oT st2 ?_
    show oE _ _ _ _ (T2.setTop (mkF m 12 #[.val (.ref ca), .val (.int 0), .val (.int 1), .val (.ref b1), .unset, .unset] [(.int 0)]))
    have N2 := own_fr l2 N0 N2q
    have KK2 := K1.trans Kq2 (allS (Or.inr sz_b1) all0)
    show oE _ _ _ _ (T2.setTop (mkF m 12 #[.val (.ref ca), .val (.int 0), .val (.int 1), .val (.ref b1), .unset, .unset] [(.int 0)]))
    refine oT (fun _ u => XS.istore X2.here hx rfl (hb hby d9_12) rfl (l' := #[.val (.ref ca), .val (.int (0 : Int32)), .val (.int (1 : Int32)), .val (.ref b1), .val (.int (0 : Int32)), .unset]) rfl u) ?_
    refine oT (fun _ u => XS.iload X2.here hx rfl (hb hby d9_14) rfl u) ?_
    refine oT (fun _ u => XS.iloadN X2.here hx rfl (hb hby d9_16) rfl u) ?_
    refine oT (fun _ u => XS.icmpNo X2.here hx rfl (hb hby d9_17) rfl (feq (by decide)).1 u) ?_
    show oE _ _ _ _ (T2.setTop (mkF m 20 #[.val (.ref ca), .val (.int 0), .val (.int 1), .val (.ref b1), .val (.int 0), .unset] []))
    refine oT (fun _ u => XS.aloadN X2.here hx rfl (hb hby d9_20) rfl rfl u) ?_
    refine oT (fun _ u => XS.iloadN X2.here hx rfl (hb hby d9_21) rfl u) ?_
    refine oT (fun _ u => XS.iloadN X2.here hx rfl (hb hby d9_22) rfl u) ?_
    obtain ⟨_, _, ⟨T3, L3, k3, n3⟩, -, X3, ⟨Lc3, hQ3, l3, y3, z3⟩, st3⟩ := Jvm.LawKit.callS X2 hx (y := oM11) hown (mvT hZ (ow89 hw)) (mvT hZ (ow90 hw)) (mvT hZ (ow49 hw)) (mvT hZ (ow91 hw)) (by decide) (backOf (W := 0) (rmTB1 l Z a0 hw [] ca cs_ rf_ kc ce0 T2.heap n0 Oq2 HS ((V_c.ext E1).keep Kq2 (ninS ne_ca_b1 nin0))) hZ (ow91 hw) (ow49 hw) (by decide) (by decide)) (g := (mkF m 23 #[.val (.ref ca), .val (.int 0), .val (.int 1), .val (.ref b1), .val (.int 0), .unset] [(.int 1), (.int 0), (.ref ca)])) rfl (by rw [hml]; rfl) (argsL := [(.ref ca), (.int (0 : Int32)), (.int (1 : Int32))]) (rest := []) (lenOf pd_6 rfl) rfl (by show 2 * 0 + _ ≤ _; exact Nat.le_of_eq rfl) (hb hby d9_23) (fun _ _ => ⟨rfl, rfl, (own_le rfl), (own_le rfl)⟩)
    dsimp only [Pt.U, Pt.locs, Pt.cells, Pt.slots] at X3 l3 y3 z3 st3 hQ3
    subst y3 z3
    obtain ⟨u3, ku3, rfl, g_u3, sq_u3, N3q, Oq3, Kq3, Vx3⟩ := hQ3
    have N3 := own_fr l3 N2 N3q
    have ne_ca_u3 : ca ≠ u3 := Nat.ne_of_lt (Nat.lt_of_lt_of_le ((V_c.ext E1).keep Kq2 (ninS ne_ca_b1 nin0)).lt sq_u3)
    have sz_u3 : h0.size ≤ u3 := Nat.le_trans KK2.1 sq_u3
    have KK3 := KK2.trans Kq3 all0
    refine oT st3 ?_
    show oE _ _ _ _ (T3.setTop (mkF m 26 #[.val (.ref ca), .val (.int 0), .val (.int 1), .val (.ref b1), .val (.int 0), .unset] [(.ref u3)]))
    refine oT (fun _ u => XS.astore X3.here hx rfl (hb hby d9_26) rfl rfl (l' := #[.val (.ref ca), .val (.int (0 : Int32)), .val (.int (1 : Int32)), .val (.ref b1), .val (.int (0 : Int32)), .val (.ref u3)]) rfl u) ?_
    refine oT (fun _ u => XS.aload X3.here hx rfl (hb hby d9_28) rfl rfl u) ?_
    refine oT (fun _ u => XS.iload X3.here hx rfl (hb hby d9_30) rfl u) ?_
    obtain ⟨_, _, ⟨T4, L4, k4, n4⟩, -, X4, ⟨Lc4, hQ4, l4, y4, z4⟩, st4⟩ := Jvm.LawKit.callS X3 hx (y := oM8) hown (mvT hZ (ow105 hw)) (mvT hZ (ow106 hw)) (mvT hZ (ow49 hw)) (mvT hZ (ow107 hw)) (by decide) (backOf (W := 0) (rmGC l Z a0 hw [] u3 (0 : Int32) cs_ rf_ ku3 (2 : Int32) [(.int ((ce0 >>> ((0 : Int32) &&& 31)).toInt8.toInt32)), (.int ((ce0 >>> ((8 : Int32) &&& 31)).toInt8.toInt32))] ((ce0 >>> ((0 : Int32) &&& 31)).toInt8.toInt32) ((ce0 >>> ((8 : Int32) &&& 31)).toInt8.toInt32) T3.heap n0 Oq3 HS Vx3 ⟨by decide, by decide⟩ ⟨by decide, by decide⟩ rfl rfl) hZ (ow107 hw) (ow49 hw) (by decide) (by decide)) (g := (mkF m 32 #[.val (.ref ca), .val (.int 0), .val (.int 1), .val (.ref b1), .val (.int 0), .val (.ref u3)] [(.int 0), (.ref u3)])) rfl (by rw [hml]; rfl) (argsL := [(.ref u3), (.int (0 : Int32))]) (rest := []) (lenOf pd_7 rfl) rfl (by show 2 * 0 + _ ≤ _; exact Nat.le_of_eq rfl) (hb hby d9_32) (fun _ _ => ⟨rfl, rfl, (own_le rfl), (own_le rfl)⟩)
    dsimp only [Pt.U, Pt.locs, Pt.cells, Pt.slots] at X4 l4 y4 z4 st4 hQ4
    subst y4 z4
    obtain ⟨hv4, N4q, E4⟩ := hQ4
    rw [own_utf HE0] at hv4
    subst hv4
    have N4 := own_fr l4 N3 N4q
    refine oT st4 ?_
    show oE _ _ _ _ (T4.setTop (mkF m 35 #[.val (.ref ca), .val (.int 0), .val (.int 1), .val (.ref b1), .val (.int 0), .val (.ref u3)] [(.int ce0)]))
    refine oT (fun _ u => XS.sipush X4.here hx rfl (hb hby d9_35) u) ?_
    refine oT (fun _ u => XS.icmpYes X4.here hx rfl (pc0 := 38) (pc' := 54) rfl (hb hby d9_38) rfl (tlt gt0).2.2.1 (by decide) (by decide) u) ?_
    show oE _ _ _ _ (T4.setTop (mkF m 54 #[.val (.ref ca), .val (.int 0), .val (.int 1), .val (.ref b1), .val (.int 0), .val (.ref u3)] []))
    refine oT (fun _ u => XS.aload X4.here hx rfl (hb hby d9_54) rfl rfl u) ?_
    refine own_leave X4 (v := some (.ref u3)) (fun h => by rw [Bd.returns] at h; cases h) ?_ (by decide) (by decide) (fun fs hr => retOut X4 hx Bd.returns rfl (Or.inr (Or.inr (Or.inr (Or.inr ⟨rfl, rfl, rfl⟩)))) (hb hby d9_56) hr)
    show Q_cp1_1 Z ca cs_ rf_ kc ce0 h0 n0 _ T4.heap _
    rw [E4]
    exact Or.inr ⟨u3, ku3, rfl, g_u3, sz_u3, N4, Oq3, KK3, Vx3⟩
theorem d4_0 : decode jdk_42_method_149_code 0 = .ok (.aload_n 0, 1) := by decide +kernel
theorem d4_1 : decode jdk_42_method_149_code 1 = .ok (.invokespecial 1, 3) := by decide +kernel
theorem d4_4 : decode jdk_42_method_149_code 4 = .ok (.iload_n 3, 1) := by decide +kernel
theorem d4_5 : decode jdk_42_method_149_code 5 = .ok (.ifCond .ne 22, 3) := by decide +kernel
theorem d4_27 : decode jdk_42_method_149_code 27 = .ok (.getstatic 38, 3) := by decide +kernel
theorem d4_30 : decode jdk_42_method_149_code 30 = .ok (.ifCond .eq 28, 3) := by decide +kernel
theorem d4_33 : decode jdk_42_method_149_code 33 = .ok (.aload_n 1, 1) := by decide +kernel
theorem d4_34 : decode jdk_42_method_149_code 34 = .ok (.iload_n 2, 1) := by decide +kernel
theorem d4_35 : decode jdk_42_method_149_code 35 = .ok (.iload_n 3, 1) := by decide +kernel
theorem d4_36 : decode jdk_42_method_149_code 36 = .ok (.invokestatic 177, 3) := by decide +kernel
theorem d4_39 : decode jdk_42_method_149_code 39 = .ok (.astore 5, 2) := by decide +kernel
theorem d4_41 : decode jdk_42_method_149_code 41 = .ok (.aload_n 0, 1) := by decide +kernel
theorem d4_42 : decode jdk_42_method_149_code 42 = .ok (.aload 5, 2) := by decide +kernel
theorem d4_44 : decode jdk_42_method_149_code 44 = .ok (.iload_n 3, 1) := by decide +kernel
theorem d4_45 : decode jdk_42_method_149_code 45 = .ok (.invokestatic 47, 3) := by decide +kernel
theorem d4_48 : decode jdk_42_method_149_code 48 = .ok (.putfield 15, 3) := by decide +kernel
theorem d4_51 : decode jdk_42_method_149_code 51 = .ok (.aload_n 0, 1) := by decide +kernel
theorem d4_52 : decode jdk_42_method_149_code 52 = .ok (.aload 5, 2) := by decide +kernel
theorem d4_54 : decode jdk_42_method_149_code 54 = .ok (.putfield 9, 3) := by decide +kernel
theorem d4_57 : decode jdk_42_method_149_code 57 = .ok (.return_, 1) := by decide +kernel
theorem pn_4 : plainName "java/lang/String" = true := by first | (simp [plainName, overriddenIn]; done) | decide +kernel
theorem pd_8 : parseMethodDescriptor "([BI)B" = some ⟨[(.array .byte), .int], some .byte⟩ := by decide +kernel
theorem ef_in4_1 (m : MethodId) (a : Addr) (ca : Addr) (cs_ : Int32) (rf_ : Value) (kc : ClassId) (ce0 : Int32) : entryFrame m #[(.ref a), (.ref ca), (.int (0 : Int32)), (.int (1 : Int32)), .null] 6 = mkF m 0 #[.val (.ref a), .val (.ref ca), .val (.int (0 : Int32)), .val (.int (1 : Int32)), .val .null, .unset] [] := by first | (simp [entryFrame, mkF, argsToLocals, Value.category]; done) | rfl | (rcases ref_cases hrf with rfl | ⟨q, rfl⟩ <;> rfl)
def Q_in4_1 (Z : State) (a : Addr) (ca : Addr) (cs_ : Int32) (rf_ : Value) (kc : ClassId) (ce0 : Int32) (h0 : Heap) (n0 : Nat) (v : Option Value) (h : Heap) (L : List Loc) : Prop := v = none ∧ Fr n0 L ∧ Old Z n0 h ∧ Keep h0 h [a] ∧ own_Tx1 Z h a ce0
theorem in4_1 (l : Launch) (Z : State) (a0 : Array Value) (hw : ∀ d ∈ tables_1, d.before a0 Z = true) (ws : List Jvm.Cond) (a : Addr) (ca : Addr) (cs_ : Int32) (rf_ : Value) (kc : ClassId) (ce0 : Int32) (h0 : Heap) (n0 : Nat) (O0 : Old Z n0 h0) (g_a : n0 ≤ a) (E_a : Exa Z h0 a "java/lang/String") (F_v : Fld Z h0 a "java/lang/String" "value" "[B" .null) (F_c : Fld Z h0 a "java/lang/String" "coder" "B" (.int (0 : Int32))) (V_c : Arv Z h0 ca kc .char (1 : Int32) [(.int ce0)] (.int (0 : Int32))) (ne_ca_a : ca ≠ a) (HS : own_HS Z cs_ rf_) (HE0 : own_Ch ce0) :
    MetFree l oM15 (head1 (Jvm.Cond.code oM15 jdk_42_method_149_code 6 none :: ws) ({ frames := 4, cells := 2, slots := 3, locals := 80 } : Room)) (fun aq_ U => aq_ = #[(.ref a), (.ref ca), (.int (0 : Int32)), (.int (1 : Int32)), .null] ∧ Z.Warmed39 U.vm ∧ U.heap = h0) (fun _ _ _ _ _ => True) (fun _ U o U' => ∃ v L, o = .returned v ∧ Q_in4_1 Z a ca cs_ rf_ kc ce0 h0 n0 v U'.heap L ∧ FrameEnd U o U' L 2 3) := by
  refine MetFree.of_bodySF (plainFor_of_name pn_4) hisR ?_
  intro p e s m args below meth c s₁ Bd hml0 hP hK
  obtain ⟨rfl, hZ, hh⟩ := hP
  have hx := Bd.exec
  have hby := Bd.bytes
  have hml : c.maxLocals = 6 := hml0
  have hown : s.vm.findClass "java/lang/String" = some m.cls := findClass_of_methodNamed Bd.named
  have hnm := (name_of_methodNamed Bd.named Bd.method).1
  have X0 : Stand p l e ({ frames := 4, cells := 2, slots := 3, locals := 80 } : Room) s m #[(.ref a), (.ref ca), (.int (0 : Int32)), (.int (1 : Int32)), .null] below meth c s₁ [] 0 0 := Stand.of_body Bd
  have e0 : s₁.heap = h0 := by rw [← hh, Bd.state]; rfl
  have N0 := Fr.nil n0
  show oE p.tables e below (own_P s (Q_in4_1 Z a ca cs_ rf_ kc ce0 h0 n0) 2 3) _
  refine own_cast (ef_in4_1 m a ca cs_ rf_ kc ce0) ?_
  have K0 := Keep.refl h0 [a]
  show oE _ _ _ _ (s₁.setTop (mkF m 0 #[.val (.ref a), .val (.ref ca), .val (.int 0), .val (.int 1), .val .null, .unset] []))
  refine oT (fun _ u => XS.aloadN X0.here hx rfl (hb hby d4_0) rfl rfl u) ?_
  obtain ⟨T1, X1, e1, st1⟩ := initO X0 hx hZ hown (ow21 hw) (ow22 hw) (ow23 hw) e0 (g := (mkF m 1 #[.val (.ref a), .val (.ref ca), .val (.int 0), .val (.int 1), .val .null, .unset] [(.ref a)])) rfl (by rw [hml]; rfl) rfl (hb hby d4_1) (by decide) (W := 0) (by show 2 * 0 + _ ≤ _; exact Nat.le_of_eq rfl) (by decide)
  refine oT st1 ?_
  show oE _ _ _ _ (T1.setTop (mkF m 4 #[.val (.ref a), .val (.ref ca), .val (.int 0), .val (.int 1), .val .null, .unset] []))
  refine oT (fun _ u => XS.iloadN X1.here hx rfl (hb hby d4_4) rfl u) ?_
  refine oT (fun _ u => XS.ifYes X1.here hx rfl (pc0 := 5) (pc' := 27) rfl (hb hby d4_5) rfl ((if0 _ _).trans (feq (by decide)).2) (by decide) (by decide) u) ?_
  show oE _ _ _ _ (T1.setTop (mkF m 27 #[.val (.ref a), .val (.ref ca), .val (.int 0), .val (.int 1), .val .null, .unset] []))
  obtain ⟨T2, X2, e2, st2⟩ := getS2 X1 hx hZ hown (host := "") (Or.inl (ow46 hw)) Via.refl e1 (HS.1.ext O0.2) (g := (mkF m 27 #[.val (.ref a), .val (.ref ca), .val (.int 0), .val (.int 1), .val .null, .unset] [])) rfl (hb hby d4_27)
  refine oT st2 ?_
  show oE _ _ _ _ (T2.setTop (mkF m 30 #[.val (.ref a), .val (.ref ca), .val (.int 0), .val (.int 1), .val .null, .unset] [(.int cs_)]))
  refine oT (fun _ u => XS.ifNo X2.here hx rfl (hb hby d4_30) rfl ((if0 _ _).trans (feq HS.2.2.2.2.2.1).1) u) ?_
  show oE _ _ _ _ (T2.setTop (mkF m 33 #[.val (.ref a), .val (.ref ca), .val (.int 0), .val (.int 1), .val .null, .unset] []))
  refine oT (fun _ u => XS.aloadN X2.here hx rfl (hb hby d4_33) rfl rfl u) ?_
  refine oT (fun _ u => XS.iloadN X2.here hx rfl (hb hby d4_34) rfl u) ?_
  refine oT (fun _ u => XS.iloadN X2.here hx rfl (hb hby d4_35) rfl u) ?_
  obtain ⟨_, _, ⟨T3, L3, k3, n3⟩, -, X3, ⟨Lc3, hQ3, l3, y3, z3⟩, st3⟩ := Jvm.LawKit.callS X2 hx (y := oM14) hown (mvT hZ (ow47 hw)) (mvT hZ (ow48 hw)) (mvT hZ (ow49 hw)) (mvT hZ (ow50 hw)) (by decide) (backOf (W := 0) (cp1_1 l Z a0 hw [] ca cs_ rf_ kc ce0 h0 n0 O0 HS V_c HE0) hZ (ow50 hw) (ow49 hw) (by decide) (by decide)) (g := (mkF m 36 #[.val (.ref a), .val (.ref ca), .val (.int 0), .val (.int 1), .val .null, .unset] [(.int 1), (.int 0), (.ref ca)])) rfl (by rw [hml]; rfl) (argsL := [(.ref ca), (.int (0 : Int32)), (.int (1 : Int32))]) (rest := []) (lenOf pd_6 rfl) rfl (by show 2 * 0 + _ ≤ _; exact Nat.le_of_eq rfl) (hb hby d4_36) (fun _ _ => ⟨rfl, e2, (own_le rfl), (own_le rfl)⟩)
  dsimp only [Pt.U, Pt.locs, Pt.cells, Pt.slots] at X3 l3 y3 z3 st3 hQ3
  subst y3 z3
  rcases hQ3 with ⟨u3, ku3, rfl, g_u3, sq_u3, N3q, Oq3, Kq3, Vx3, le0⟩ | ⟨u3, ku3, rfl, g_u3, sq_u3, N3q, Oq3, Kq3, Vx3⟩
  · skip
    refine oT st3 ?_
    show oE _ _ _ _ (T3.setTop (mkF m 39 #[.val (.ref a), .val (.ref ca), .val (.int 0), .val (.int 1), .val .null, .unset] [(.ref u3)]))
    have N3 := own_fr l3 N0 N3q
    have ne_ca_u3 : ca ≠ u3 := Nat.ne_of_lt (Nat.lt_of_lt_of_le V_c.lt sq_u3)
    have ne_a_u3 : a ≠ u3 := Nat.ne_of_lt (Nat.lt_of_lt_of_le E_a.lt sq_u3)
    have sz_u3 : h0.size ≤ u3 := Nat.le_trans K0.1 sq_u3
    have KK3 := K0.trans Kq3 all0
    show oE _ _ _ _ (T3.setTop (mkF m 39 #[.val (.ref a), .val (.ref ca), .val (.int 0), .val (.int 1), .val .null, .unset] [(.ref u3)]))
    refine oT (fun _ u => XS.astore X3.here hx rfl (hb hby d4_39) rfl rfl (l' := #[.val (.ref a), .val (.ref ca), .val (.int (0 : Int32)), .val (.int (1 : Int32)), .val .null, .val (.ref u3)]) rfl u) ?_
    refine oT (fun _ u => XS.aloadN X3.here hx rfl (hb hby d4_41) rfl rfl u) ?_
    refine oT (fun _ u => XS.aload X3.here hx rfl (hb hby d4_42) rfl rfl u) ?_
    refine oT (fun _ u => XS.iloadN X3.here hx rfl (hb hby d4_44) rfl u) ?_
    obtain ⟨_, _, ⟨T4, L4, k4, n4⟩, -, X4, ⟨Lc4, hQ4, l4, y4, z4⟩, st4⟩ := Jvm.LawKit.callS X3 hx (y := oM12) hown (mvT hZ (ow54 hw)) (mvT hZ (ow55 hw)) (mvT hZ (ow49 hw)) (mvT hZ (ow56 hw)) (by decide) (backOf (W := 1) (rmCF l Z a0 hw [] u3 (1 : Int32) cs_ rf_ ku3 (1 : Int32) [(.int (ce0.toInt8.toInt32))] T3.heap n0 Oq3 Vx3) hZ (ow56 hw) (ow49 hw) (by decide) (by decide)) (g := (mkF m 45 #[.val (.ref a), .val (.ref ca), .val (.int 0), .val (.int 1), .val .null, .val (.ref u3)] [(.int 1), (.ref u3), (.ref a)])) rfl (by rw [hml]; rfl) (argsL := [(.ref u3), (.int (1 : Int32))]) (rest := [(.ref a)]) (lenOf pd_8 rfl) rfl (by show 2 * 0 + _ ≤ _; exact Nat.le_of_eq rfl) (hb hby d4_45) (fun _ _ => ⟨rfl, rfl, (own_le rfl), (own_le rfl)⟩)
    dsimp only [Pt.U, Pt.locs, Pt.cells, Pt.slots] at X4 l4 y4 z4 st4 hQ4
    subst y4 z4
    obtain ⟨hv4, N4q, E4⟩ := hQ4
    rw [show nar .byte (((((1 : Int32) - (1 : Int32)).toUInt32 >>> ((31 : Int32) &&& 31).toUInt32).toInt32).toInt8.toInt32) = (0 : Int32) from by decide] at hv4
    subst hv4
    have N4 := own_fr l4 N3 N4q
    refine oT st4 ?_
    show oE _ _ _ _ (T4.setTop (mkF m 48 #[.val (.ref a), .val (.ref ca), .val (.int 0), .val (.int 1), .val .null, .val (.ref u3)] [(.int 0), (.ref a)]))
    obtain ⟨T5, h5, X5, e5, W5, st5⟩ := putFN X4 hx hZ hown (ow31 hw) Via.refl E4 (F_c.keep Kq3 nin0) (E_a.keep Kq3) (Or.inr ⟨(ow27 hw), rfl, hnm⟩) (ow8 hw) (ty := .byte) (v' := (.int (nar .byte (0 : Int32)))) (by decide) rfl (fits_nar_byte _) (g := (mkF m 48 #[.val (.ref a), .val (.ref ca), .val (.int 0), .val (.int 1), .val .null, .val (.ref u3)] [(.int 0), (.ref a)])) rfl rfl (hb hby d4_48)
    refine oT st5 ?_
    have Fw5 : Fld Z h5 a "java/lang/String" "coder" "B" (.int (0 : Int32)) := (F_c.keep Kq3 nin0).same W5
    have O5 := Oq3.wr W5 g_a
    have N5 := Fr.snoc X5 N4 g_a
    have K5 := KK3.wr W5 (Or.inl (List.mem_of_getElem? (i := 0) rfl))
    show oE _ _ _ _ (T5.setTop (mkF m 51 #[.val (.ref a), .val (.ref ca), .val (.int 0), .val (.int 1), .val .null, .val (.ref u3)] []))
    refine oT (fun _ u => XS.aloadN X5.here hx rfl (hb hby d4_51) rfl rfl u) ?_
    refine oT (fun _ u => XS.aload X5.here hx rfl (hb hby d4_52) rfl rfl u) ?_
    obtain ⟨T6, h6, X6, e6, W6, st6⟩ := putF X5 hx hZ hown (host := "") (Or.inl (ow30 hw)) Via.refl e5 ((F_v.keep Kq3 nin0).other W5 (Or.inr (slot_ne (Or.inr (ow26 hw)) (Or.inr (ow27 hw)) (by decide) (t := (.array .byte)) (t' := .byte) (by decide) (by decide)))) ((E_a.keep Kq3).wr W5) (Or.inr ⟨(ow26 hw), rfl, hnm⟩) (ow8 hw) (ty := (.array .byte)) (by decide) rfl rfl (g := (mkF m 54 #[.val (.ref a), .val (.ref ca), .val (.int 0), .val (.int 1), .val .null, .val (.ref u3)] [(.ref u3), (.ref a)])) rfl rfl (hb hby d4_54)
    refine oT st6 ?_
    have Fw6 : Fld Z h6 a "java/lang/String" "value" "[B" (.ref u3) := ((F_v.keep Kq3 nin0).other W5 (Or.inr (slot_ne (Or.inr (ow26 hw)) (Or.inr (ow27 hw)) (by decide) (t := (.array .byte)) (t' := .byte) (by decide) (by decide)))).same W6
    have O6 := O5.wr W6 g_a
    have N6 := Fr.snoc X6 N5 g_a
    have K6 := K5.wr W6 (Or.inl (List.mem_of_getElem? (i := 0) rfl))
    show oE _ _ _ _ (T6.setTop (mkF m 57 #[.val (.ref a), .val (.ref ca), .val (.int 0), .val (.int 1), .val .null, .val (.ref u3)] []))
    refine own_leave X6 (v := none) (fun _ => rfl) ?_ (by decide) (by decide) (fun fs hr => X6.returnOut hx Bd.returns (hb hby d4_57) hr)
    show Q_in4_1 Z a ca cs_ rf_ kc ce0 h0 n0 _ T6.heap _
    rw [e6]
    exact ⟨rfl, N6, O6, K6, Or.inl ⟨u3, ku3, (((E_a.keep Kq3).wr W5).wr W6), (Fw5.other W6 (Or.inr (slot_ne (Or.inr (ow27 hw)) (Or.inr (ow26 hw)) (by decide) (t := .byte) (t' := (.array .byte)) (by decide) (by decide)))), Fw6, ((Vx3.other W5 (Ne.symm ne_a_u3)).other W6 (Ne.symm ne_a_u3)), le0⟩⟩
  · skip
    refine oT st3 ?_
    show oE _ _ _ _ (T3.setTop (mkF m 39 #[.val (.ref a), .val (.ref ca), .val (.int 0), .val (.int 1), .val .null, .unset] [(.ref u3)]))
    have N3 := own_fr l3 N0 N3q
    have ne_ca_u3 : ca ≠ u3 := Nat.ne_of_lt (Nat.lt_of_lt_of_le V_c.lt sq_u3)
    have ne_a_u3 : a ≠ u3 := Nat.ne_of_lt (Nat.lt_of_lt_of_le E_a.lt sq_u3)
    have sz_u3 : h0.size ≤ u3 := Nat.le_trans K0.1 sq_u3
    have KK3 := K0.trans Kq3 all0
    show oE _ _ _ _ (T3.setTop (mkF m 39 #[.val (.ref a), .val (.ref ca), .val (.int 0), .val (.int 1), .val .null, .unset] [(.ref u3)]))
    refine oT (fun _ u => XS.astore X3.here hx rfl (hb hby d4_39) rfl rfl (l' := #[.val (.ref a), .val (.ref ca), .val (.int (0 : Int32)), .val (.int (1 : Int32)), .val .null, .val (.ref u3)]) rfl u) ?_
    refine oT (fun _ u => XS.aloadN X3.here hx rfl (hb hby d4_41) rfl rfl u) ?_
    refine oT (fun _ u => XS.aload X3.here hx rfl (hb hby d4_42) rfl rfl u) ?_
    refine oT (fun _ u => XS.iloadN X3.here hx rfl (hb hby d4_44) rfl u) ?_
    obtain ⟨_, _, ⟨T7, L7, k7, n7⟩, -, X7, ⟨Lc7, hQ7, l7, y7, z7⟩, st7⟩ := Jvm.LawKit.callS X3 hx (y := oM12) hown (mvT hZ (ow54 hw)) (mvT hZ (ow55 hw)) (mvT hZ (ow49 hw)) (mvT hZ (ow56 hw)) (by decide) (backOf (W := 1) (rmCF l Z a0 hw [] u3 (1 : Int32) cs_ rf_ ku3 (2 : Int32) [(.int ((ce0 >>> ((0 : Int32) &&& 31)).toInt8.toInt32)), (.int ((ce0 >>> ((8 : Int32) &&& 31)).toInt8.toInt32))] T3.heap n0 Oq3 Vx3) hZ (ow56 hw) (ow49 hw) (by decide) (by decide)) (g := (mkF m 45 #[.val (.ref a), .val (.ref ca), .val (.int 0), .val (.int 1), .val .null, .val (.ref u3)] [(.int 1), (.ref u3), (.ref a)])) rfl (by rw [hml]; rfl) (argsL := [(.ref u3), (.int (1 : Int32))]) (rest := [(.ref a)]) (lenOf pd_8 rfl) rfl (by show 2 * 0 + _ ≤ _; exact Nat.le_of_eq rfl) (hb hby d4_45) (fun _ _ => ⟨rfl, rfl, (own_le rfl), (own_le rfl)⟩)
    dsimp only [Pt.U, Pt.locs, Pt.cells, Pt.slots] at X7 l7 y7 z7 st7 hQ7
    subst y7 z7
    obtain ⟨hv7, N7q, E7⟩ := hQ7
    rw [show nar .byte (((((1 : Int32) - (2 : Int32)).toUInt32 >>> ((31 : Int32) &&& 31).toUInt32).toInt32).toInt8.toInt32) = (1 : Int32) from by decide] at hv7
    subst hv7
    have N7 := own_fr l7 N3 N7q
    refine oT st7 ?_
    show oE _ _ _ _ (T7.setTop (mkF m 48 #[.val (.ref a), .val (.ref ca), .val (.int 0), .val (.int 1), .val .null, .val (.ref u3)] [(.int 1), (.ref a)]))
    obtain ⟨T8, h8, X8, e8, W8, st8⟩ := putFN X7 hx hZ hown (ow31 hw) Via.refl E7 (F_c.keep Kq3 nin0) (E_a.keep Kq3) (Or.inr ⟨(ow27 hw), rfl, hnm⟩) (ow8 hw) (ty := .byte) (v' := (.int (nar .byte (1 : Int32)))) (by decide) rfl (fits_nar_byte _) (g := (mkF m 48 #[.val (.ref a), .val (.ref ca), .val (.int 0), .val (.int 1), .val .null, .val (.ref u3)] [(.int 1), (.ref a)])) rfl rfl (hb hby d4_48)
    refine oT st8 ?_
    have Fw8 : Fld Z h8 a "java/lang/String" "coder" "B" (.int (1 : Int32)) := (F_c.keep Kq3 nin0).same W8
    have O8 := Oq3.wr W8 g_a
    have N8 := Fr.snoc X8 N7 g_a
    have K8 := KK3.wr W8 (Or.inl (List.mem_of_getElem? (i := 0) rfl))
    show oE _ _ _ _ (T8.setTop (mkF m 51 #[.val (.ref a), .val (.ref ca), .val (.int 0), .val (.int 1), .val .null, .val (.ref u3)] []))
    refine oT (fun _ u => XS.aloadN X8.here hx rfl (hb hby d4_51) rfl rfl u) ?_
    refine oT (fun _ u => XS.aload X8.here hx rfl (hb hby d4_52) rfl rfl u) ?_
    obtain ⟨T9, h9, X9, e9, W9, st9⟩ := putF X8 hx hZ hown (host := "") (Or.inl (ow30 hw)) Via.refl e8 ((F_v.keep Kq3 nin0).other W8 (Or.inr (slot_ne (Or.inr (ow26 hw)) (Or.inr (ow27 hw)) (by decide) (t := (.array .byte)) (t' := .byte) (by decide) (by decide)))) ((E_a.keep Kq3).wr W8) (Or.inr ⟨(ow26 hw), rfl, hnm⟩) (ow8 hw) (ty := (.array .byte)) (by decide) rfl rfl (g := (mkF m 54 #[.val (.ref a), .val (.ref ca), .val (.int 0), .val (.int 1), .val .null, .val (.ref u3)] [(.ref u3), (.ref a)])) rfl rfl (hb hby d4_54)
    refine oT st9 ?_
    have Fw9 : Fld Z h9 a "java/lang/String" "value" "[B" (.ref u3) := ((F_v.keep Kq3 nin0).other W8 (Or.inr (slot_ne (Or.inr (ow26 hw)) (Or.inr (ow27 hw)) (by decide) (t := (.array .byte)) (t' := .byte) (by decide) (by decide)))).same W9
    have O9 := O8.wr W9 g_a
    have N9 := Fr.snoc X9 N8 g_a
    have K9 := K8.wr W9 (Or.inl (List.mem_of_getElem? (i := 0) rfl))
    show oE _ _ _ _ (T9.setTop (mkF m 57 #[.val (.ref a), .val (.ref ca), .val (.int 0), .val (.int 1), .val .null, .val (.ref u3)] []))
    refine own_leave X9 (v := none) (fun _ => rfl) ?_ (by decide) (by decide) (fun fs hr => X9.returnOut hx Bd.returns (hb hby d4_57) hr)
    show Q_in4_1 Z a ca cs_ rf_ kc ce0 h0 n0 _ T9.heap _
    rw [e9]
    exact ⟨rfl, N9, O9, K9, Or.inr ⟨u3, ku3, (((E_a.keep Kq3).wr W8).wr W9), (Fw8.other W9 (Or.inr (slot_ne (Or.inr (ow27 hw)) (Or.inr (ow26 hw)) (by decide) (t := .byte) (t' := (.array .byte)) (by decide) (by decide)))), Fw9, ((Vx3.other W8 (Ne.symm ne_a_u3)).other W9 (Ne.symm ne_a_u3))⟩⟩
theorem d3_0 : decode jdk_42_method_3_code 0 = .ok (.aload_n 0, 1) := by decide +kernel
theorem d3_1 : decode jdk_42_method_3_code 1 = .ok (.aload_n 1, 1) := by decide +kernel
theorem d3_2 : decode jdk_42_method_3_code 2 = .ok (.iconst 0, 1) := by decide +kernel
theorem d3_3 : decode jdk_42_method_3_code 3 = .ok (.aload_n 1, 1) := by decide +kernel
theorem d3_4 : decode jdk_42_method_3_code 4 = .ok (.arraylength, 1) := by decide +kernel
theorem d3_5 : decode jdk_42_method_3_code 5 = .ok (.aconst_null, 1) := by decide +kernel
theorem d3_6 : decode jdk_42_method_3_code 6 = .ok (.invokespecial 27, 3) := by decide +kernel
theorem d3_9 : decode jdk_42_method_3_code 9 = .ok (.return_, 1) := by decide +kernel
theorem pn_3 : plainName "java/lang/String" = true := by first | (simp [plainName, overriddenIn]; done) | decide +kernel
theorem pd_9 : parseMethodDescriptor "([CIILjava/lang/Void;)V" = some ⟨[(.array .char), .int, .int, (.object "java/lang/Void")], none⟩ := by decide +kernel
theorem ef_in1_1 (m : MethodId) (a : Addr) (ca : Addr) : entryFrame m #[(.ref a), (.ref ca)] 2 = mkF m 0 #[.val (.ref a), .val (.ref ca)] [] := by first | (simp [entryFrame, mkF, argsToLocals, Value.category]; done) | rfl | (rcases ref_cases hrf with rfl | ⟨q, rfl⟩ <;> rfl)
def Q_in1_1 (Z : State) (a : Addr) (ca : Addr) (cs_ : Int32) (rf_ : Value) (kc : ClassId) (ce0 : Int32) (h0 : Heap) (n0 : Nat) (v : Option Value) (h : Heap) (L : List Loc) : Prop := v = none ∧ Fr n0 L ∧ Old Z n0 h ∧ Keep h0 h [a] ∧ own_Tx1 Z h a ce0
theorem in1_1 (l : Launch) (Z : State) (a0 : Array Value) (hw : ∀ d ∈ tables_1, d.before a0 Z = true) (ws : List Jvm.Cond) (a : Addr) (ca : Addr) (cs_ : Int32) (rf_ : Value) (kc : ClassId) (ce0 : Int32) (h0 : Heap) (n0 : Nat) (O0 : Old Z n0 h0) (g_a : n0 ≤ a) (E_a : Exa Z h0 a "java/lang/String") (F_v : Fld Z h0 a "java/lang/String" "value" "[B" .null) (F_c : Fld Z h0 a "java/lang/String" "coder" "B" (.int (0 : Int32))) (V_c : Arv Z h0 ca kc .char (1 : Int32) [(.int ce0)] (.int (0 : Int32))) (ne_ca_a : ca ≠ a) (HS : own_HS Z cs_ rf_) (HE0 : own_Ch ce0) :
    MetFree l oM16 (head1 (Jvm.Cond.code oM16 jdk_42_method_3_code 2 none :: ws) ({ frames := 5, cells := 2, slots := 3, locals := 110 } : Room)) (fun aq_ U => aq_ = #[(.ref a), (.ref ca)] ∧ Z.Warmed39 U.vm ∧ U.heap = h0) (fun _ _ _ _ _ => True) (fun _ U o U' => ∃ v L, o = .returned v ∧ Q_in1_1 Z a ca cs_ rf_ kc ce0 h0 n0 v U'.heap L ∧ FrameEnd U o U' L 2 3) := by
  refine MetFree.of_bodySF (plainFor_of_name pn_3) hisR ?_
  intro p e s m args below meth c s₁ Bd hml0 hP hK
  obtain ⟨rfl, hZ, hh⟩ := hP
  have hx := Bd.exec
  have hby := Bd.bytes
  have hml : c.maxLocals = 2 := hml0
  have hown : s.vm.findClass "java/lang/String" = some m.cls := findClass_of_methodNamed Bd.named
  have hnm := (name_of_methodNamed Bd.named Bd.method).1
  have X0 : Stand p l e ({ frames := 5, cells := 2, slots := 3, locals := 110 } : Room) s m #[(.ref a), (.ref ca)] below meth c s₁ [] 0 0 := Stand.of_body Bd
  have e0 : s₁.heap = h0 := by rw [← hh, Bd.state]; rfl
  have N0 := Fr.nil n0
  show oE p.tables e below (own_P s (Q_in1_1 Z a ca cs_ rf_ kc ce0 h0 n0) 2 3) _
  refine own_cast (ef_in1_1 m a ca) ?_
  have K0 := Keep.refl h0 [a]
  show oE _ _ _ _ (s₁.setTop (mkF m 0 #[.val (.ref a), .val (.ref ca)] []))
  refine oT (fun _ u => XS.aloadN X0.here hx rfl (hb hby d3_0) rfl rfl u) ?_
  refine oT (fun _ u => XS.aloadN X0.here hx rfl (hb hby d3_1) rfl rfl u) ?_
  refine oT (fun _ u => XS.iconst X0.here hx rfl (hb hby d3_2) u) ?_
  refine oT (fun _ u => XS.aloadN X0.here hx rfl (hb hby d3_3) rfl rfl u) ?_
  obtain ⟨cl1, Ar1, q1, S1, M1, -, -⟩ := id V_c
  refine oT (fun _ u => X0.arraylength hx (by rw [e0]; exact Ar1.1) (State.isArrayOf_alike hZ.alike Ar1.2.1) (g := (mkF m 4 #[.val (.ref a), .val (.ref ca)] [(.ref ca), (.int 0), (.ref ca), (.ref a)])) rfl rfl (hb hby d3_4) _ u) ?_
  rw [len_of S1 M1]
  show oE _ _ _ _ (s₁.setTop (mkF m 5 #[.val (.ref a), .val (.ref ca)] [(.int 1), (.int 0), (.ref ca), (.ref a)]))
  refine oT (fun _ u => XS.aconstNull X0.here hx rfl (hb hby d3_5) u) ?_
  show oE _ _ _ _ (s₁.setTop (mkF m 6 #[.val (.ref a), .val (.ref ca)] [.null, (.int 1), (.int 0), (.ref ca), (.ref a)]))
  obtain ⟨_, _, ⟨T2, L2, k2, n2⟩, -, X2, ⟨Lc2, hQ2, l2, y2, z2⟩, st2⟩ := X0.specialBack hx (y := oM15) rfl hown (mvT hZ (ow17 hw)) (mvT hZ (ow18 hw)) (mvT hZ (ow20 hw)) (by decide) (backOf (W := 0) (in4_1 l Z a0 hw [] a ca cs_ rf_ kc ce0 h0 n0 O0 g_a E_a F_v F_c V_c ne_ca_a HS HE0) hZ (ow20 hw) (ow9 hw) (by decide) (by decide)) (g := (mkF m 6 #[.val (.ref a), .val (.ref ca)] [.null, (.int 1), (.int 0), (.ref ca), (.ref a)])) rfl (by rw [hml]; rfl) (Steps.refl _) (a := a) (argsL := [(.ref ca), (.int (0 : Int32)), (.int (1 : Int32)), .null]) (rest := []) (lenOf pd_9 rfl) rfl (by show 2 * 0 + _ ≤ _; exact Nat.le_of_eq rfl) (hb hby d3_6) (fun _ _ => ⟨rfl, e0, (own_le rfl), (own_le rfl)⟩)
  dsimp only [Pt.U, Pt.locs, Pt.cells, Pt.slots] at X2 l2 y2 z2 st2 hQ2
  subst y2 z2
  obtain ⟨rfl, N2q, Oq2, Kq2, HT2⟩ := hQ2
  have N2 := own_fr l2 N0 N2q
  have KK2 := K0.trans Kq2 (allS (Or.inl (List.mem_of_getElem? (i := 0) rfl)) all0)
  refine own_tr st2 ?_
  show oE _ _ _ _ (T2.setTop (mkF m 9 #[.val (.ref a), .val (.ref ca)] []))
  refine own_leave X2 (v := none) (fun _ => rfl) ?_ (by decide) (by decide) (fun fs hr => X2.returnOut hx Bd.returns (hb hby d3_9) hr)
  show Q_in1_1 Z a ca cs_ rf_ kc ce0 h0 n0 _ T2.heap _
  exact ⟨rfl, N2, Oq2, KK2, HT2⟩
theorem ef_cp2_2 (m : MethodId) (ca : Addr) (da : Addr) (kc : ClassId) (kd : ClassId) (ce0 : Int32) (ce1 : Int32) : entryFrame m #[(.ref ca), (.int (0 : Int32)), (.ref da), (.int (0 : Int32)), (.int (2 : Int32))] 7 = mkF m 0 #[.val (.ref ca), .val (.int (0 : Int32)), .val (.ref da), .val (.int (0 : Int32)), .val (.int (2 : Int32)), .unset, .unset] [] := by first | (simp [entryFrame, mkF, argsToLocals, Value.category]; done) | rfl | (rcases ref_cases hrf with rfl | ⟨q, rfl⟩ <;> rfl)
def Q_cp2_2 (Z : State) (ca : Addr) (da : Addr) (kc : ClassId) (kd : ClassId) (ce0 : Int32) (ce1 : Int32) (h0 : Heap) (n0 : Nat) (v : Option Value) (h : Heap) (L : List Loc) : Prop := (v = some (.int (2 : Int32)) ∧ Fr n0 L ∧ Old Z n0 h ∧ Keep h0 h [da] ∧ Arv Z h da kd .byte (2 : Int32) [(.int (ce0.toInt8.toInt32)), (.int (ce1.toInt8.toInt32))] (.int (0 : Int32)) ∧ ¬ (255 : Int32) < ce0 ∧ ¬ (255 : Int32) < ce1) ∨ (v = some (.int (0 : Int32)) ∧ Fr n0 L ∧ Old Z n0 h ∧ Keep h0 h [da] ∧ (255 : Int32) < ce0) ∨ (v = some (.int (1 : Int32)) ∧ Fr n0 L ∧ Old Z n0 h ∧ Keep h0 h [da] ∧ (255 : Int32) < ce1)
theorem cp2_2 (l : Launch) (Z : State) (a0 : Array Value) (hw : ∀ d ∈ tables_1, d.before a0 Z = true) (ws : List Jvm.Cond) (ca : Addr) (da : Addr) (kc : ClassId) (kd : ClassId) (ce0 : Int32) (ce1 : Int32) (h0 : Heap) (n0 : Nat) (O0 : Old Z n0 h0) (V_c : Arv Z h0 ca kc .char (2 : Int32) [(.int ce0), (.int ce1)] (.int (0 : Int32))) (V_d : Arv Z h0 da kd .byte (2 : Int32) [(.int (0 : Int32)), (.int (0 : Int32))] (.int (0 : Int32))) (g_da : n0 ≤ da) (ne_ca_da : ca ≠ da) :
    MetFree l oM13 (head1 (Jvm.Cond.code oM13 jdk_52_method_21_code 7 (some .int) :: ws) ({ frames := 0, cells := 0, slots := 0, locals := 0 } : Room)) (fun aq_ U => aq_ = #[(.ref ca), (.int (0 : Int32)), (.ref da), (.int (0 : Int32)), (.int (2 : Int32))] ∧ Z.Warmed39 U.vm ∧ U.heap = h0) (fun _ _ _ _ _ => True) (fun _ U o U' => ∃ v L, o = .returned v ∧ Q_cp2_2 Z ca da kc kd ce0 ce1 h0 n0 v U'.heap L ∧ FrameEnd U o U' L 0 0) := by
  refine MetFree.of_bodySF (plainFor_of_name pn_10) hisR ?_
  intro p e s m args below meth c s₁ Bd hml0 hP hK
  obtain ⟨rfl, hZ, hh⟩ := hP
  have hx := Bd.exec
  have hby := Bd.bytes
  have hml : c.maxLocals = 7 := hml0
  have hown : s.vm.findClass "java/lang/StringUTF16" = some m.cls := findClass_of_methodNamed Bd.named
  have hnm := (name_of_methodNamed Bd.named Bd.method).1
  have X0 : Stand p l e ({ frames := 0, cells := 0, slots := 0, locals := 0 } : Room) s m #[(.ref ca), (.int (0 : Int32)), (.ref da), (.int (0 : Int32)), (.int (2 : Int32))] below meth c s₁ [] 0 0 := Stand.of_body Bd
  have e0 : s₁.heap = h0 := by rw [← hh, Bd.state]; rfl
  have N0 := Fr.nil n0
  show oE p.tables e below (own_P s (Q_cp2_2 Z ca da kc kd ce0 ce1 h0 n0) 0 0) _
  refine own_cast (ef_cp2_2 m ca da kc kd ce0 ce1) ?_
  have K0 := Keep.refl h0 [da]
  show oE _ _ _ _ (s₁.setTop (mkF m 0 #[.val (.ref ca), .val (.int 0), .val (.ref da), .val (.int 0), .val (.int 2), .unset, .unset] []))
  refine oT (fun _ u => XS.iconst X0.here hx rfl (hb hby d10_0) u) ?_
  refine oT (fun _ u => XS.istore X0.here hx rfl (hb hby d10_1) rfl (l' := #[.val (.ref ca), .val (.int (0 : Int32)), .val (.ref da), .val (.int (0 : Int32)), .val (.int (2 : Int32)), .val (.int (0 : Int32)), .unset]) rfl u) ?_
  refine oT (fun _ u => XS.iload X0.here hx rfl (hb hby d10_3) rfl u) ?_
  refine oT (fun _ u => XS.iload X0.here hx rfl (hb hby d10_5) rfl u) ?_
  refine oT (fun _ u => XS.icmpNo X0.here hx rfl (hb hby d10_7) rfl (tlt (by decide)).2.1 u) ?_
  show oE _ _ _ _ (s₁.setTop (mkF m 10 #[.val (.ref ca), .val (.int 0), .val (.ref da), .val (.int 0), .val (.int 2), .val (.int 0), .unset] []))
  refine oT (fun _ u => XS.aloadN X0.here hx rfl (hb hby d10_10) rfl rfl u) ?_
  refine oT (fun _ u => XS.iloadN X0.here hx rfl (hb hby d10_11) rfl u) ?_
  obtain ⟨cl1, Ar1, q1, S1, M1, H1, G1⟩ := id V_c
  have hin1 : ¬ ((0 : Int32) < 0 ∨ cl1.slots.size ≤ ((0 : Int32)).toNatClampNeg) := inb_of S1 ⟨by decide, by decide⟩
  have hat1 : cl1.slots[((0 : Int32)).toNatClampNeg]? = some (.int ce0) := Has.at H1 hin1 rfl
  refine oT (fun _ u => X0.caload hx (j := (0 : Int32)) (v := (.int ce0)) (by rw [e0]; exact Ar1.1) (State.isArrayOf_alike hZ.alike Ar1.2.1) Ar1.2.2 hin1 hat1 (g := (mkF m 12 #[.val (.ref ca), .val (.int 0), .val (.ref da), .val (.int 0), .val (.int 2), .val (.int 0), .unset] [(.int 0), (.ref ca)])) rfl rfl (hb hby d10_12) _ u) ?_
  show oE _ _ _ _ (s₁.setTop (mkF m 13 #[.val (.ref ca), .val (.int 0), .val (.ref da), .val (.int 0), .val (.int 2), .val (.int 0), .unset] [(.int ce0)]))
  refine oT (fun _ u => XS.istore X0.here hx rfl (hb hby d10_13) rfl (l' := #[.val (.ref ca), .val (.int (0 : Int32)), .val (.ref da), .val (.int (0 : Int32)), .val (.int (2 : Int32)), .val (.int (0 : Int32)), .val (.int ce0)]) rfl u) ?_
  refine oT (fun _ u => XS.iload X0.here hx rfl (hb hby d10_15) rfl u) ?_
  refine oT (fun _ u => XS.sipush X0.here hx rfl (hb hby d10_17) u) ?_
  by_cases hc20_2 : (255 : Int32) < ce0
  · -- pc 20: (255 : Int32) < ce0
    refine oT (fun _ u => XS.icmpNo X0.here hx rfl (hb hby d10_20) rfl (tlt hc20_2).2.2.2 u) ?_
    show oE _ _ _ _ (s₁.setTop (mkF m 23 #[.val (.ref ca), .val (.int 0), .val (.ref da), .val (.int 0), .val (.int 2), .val (.int 0), .val (.int ce0)] []))
    refine oT (fun _ u => XS.iload X0.here hx rfl (hb hby d10_23) rfl u) ?_
    refine own_leave X0 (v := some (.int (0 : Int32))) (fun h => by rw [Bd.returns] at h; cases h) ?_ (by decide) (by decide) (fun fs hr => retOut X0 hx Bd.returns rfl (Or.inl ⟨rfl, Or.inl rfl, _, rfl⟩) (hb hby d10_25) hr)
    show Q_cp2_2 Z ca da kc kd ce0 ce1 h0 n0 _ s₁.heap _
    rw [e0]
    exact Or.inr (Or.inl ⟨rfl, N0, O0, K0, hc20_2⟩)
  · -- pc 20: not (255 : Int32) < ce0
    refine oT (fun _ u => XS.icmpYes X0.here hx rfl (pc0 := 20) (pc' := 26) rfl (hb hby d10_20) rfl (flt hc20_2).2.2.2 (by decide) (by decide) u) ?_
    show oE _ _ _ _ (s₁.setTop (mkF m 26 #[.val (.ref ca), .val (.int 0), .val (.ref da), .val (.int 0), .val (.int 2), .val (.int 0), .val (.int ce0)] []))
    refine oT (fun _ u => XS.aloadN X0.here hx rfl (hb hby d10_26) rfl rfl u) ?_
    refine oT (fun _ u => XS.iloadN X0.here hx rfl (hb hby d10_27) rfl u) ?_
    refine oT (fun _ u => XS.iload X0.here hx rfl (hb hby d10_28) rfl u) ?_
    refine oT (fun _ u => XS.i2b X0.here hx rfl (hb hby d10_30) rfl u) ?_
    obtain ⟨cl3, Ar3, q3, S3, M3, H3, G3⟩ := id V_d
    have hin3 : ¬ ((0 : Int32) < 0 ∨ cl3.slots.size ≤ ((0 : Int32)).toNatClampNeg) := inb_of S3 ⟨by decide, by decide⟩
    obtain ⟨T3, h3, X3, e3, W3, st3⟩ := stB X0 hx hZ e0 Ar3 (j := (0 : Int32)) hin3 (g := (mkF m 31 #[.val (.ref ca), .val (.int 0), .val (.ref da), .val (.int 0), .val (.int 2), .val (.int 0), .val (.int ce0)] [(.int (ce0.toInt8.toInt32)), (.int 0), (.ref da)])) rfl rfl (hb hby d10_31)
    have Vs3 : Arv Z h3 da kd .byte (2 : Int32) [(.int (nar .byte (ce0.toInt8.toInt32))), (.int (0 : Int32))] (.int (0 : Int32)) := Arv.set Ar3 q3 S3 M3 H3 G3 (fits_nar_byte _) W3 0 rfl (own_lt rfl)
    rw [show (nar .byte (ce0.toInt8.toInt32)) = (ce0.toInt8.toInt32) from (own_nb _)] at Vs3
    refine oT st3 ?_
    have O3 := O0.wr W3 g_da
    have N3 := Fr.snoc X3 N0 g_da
    have K3 := K0.wr W3 (Or.inl (List.mem_of_getElem? (i := 0) rfl))
    show oE _ _ _ _ (T3.setTop (mkF m 32 #[.val (.ref ca), .val (.int 0), .val (.ref da), .val (.int 0), .val (.int 2), .val (.int 0), .val (.int ce0)] []))
    refine oT (fun _ u => XS.iinc X3.here hx rfl (hb hby d10_32) rfl (l' := #[.val (.ref ca), .val (.int (1 : Int32)), .val (.ref da), .val (.int (0 : Int32)), .val (.int (2 : Int32)), .val (.int (0 : Int32)), .val (.int ce0)]) rfl u) ?_
    show oE _ _ _ _ (T3.setTop (mkF m 35 #[.val (.ref ca), .val (.int 1), .val (.ref da), .val (.int 0), .val (.int 2), .val (.int 0), .val (.int ce0)] []))
    refine oT (fun _ u => XS.iinc X3.here hx rfl (hb hby d10_35) rfl (l' := #[.val (.ref ca), .val (.int (1 : Int32)), .val (.ref da), .val (.int (1 : Int32)), .val (.int (2 : Int32)), .val (.int (0 : Int32)), .val (.int ce0)]) rfl u) ?_
    show oE _ _ _ _ (T3.setTop (mkF m 38 #[.val (.ref ca), .val (.int 1), .val (.ref da), .val (.int 1), .val (.int 2), .val (.int 0), .val (.int ce0)] []))
    refine oT (fun _ u => XS.iinc X3.here hx rfl (hb hby d10_38) rfl (l' := #[.val (.ref ca), .val (.int (1 : Int32)), .val (.ref da), .val (.int (1 : Int32)), .val (.int (2 : Int32)), .val (.int (1 : Int32)), .val (.int ce0)]) rfl u) ?_
    show oE _ _ _ _ (T3.setTop (mkF m 41 #[.val (.ref ca), .val (.int 1), .val (.ref da), .val (.int 1), .val (.int 2), .val (.int 1), .val (.int ce0)] []))
    refine oT (fun _ u => XS.goto X3.here hx rfl (pc0 := 41) (pc' := 3) rfl (hb hby d10_41) (by decide) (by decide) u) ?_
    refine oT (fun _ u => XS.iload X3.here hx rfl (hb hby d10_3) rfl u) ?_
    refine oT (fun _ u => XS.iload X3.here hx rfl (hb hby d10_5) rfl u) ?_
    refine oT (fun _ u => XS.icmpNo X3.here hx rfl (hb hby d10_7) rfl (tlt (by decide)).2.1 u) ?_
    show oE _ _ _ _ (T3.setTop (mkF m 10 #[.val (.ref ca), .val (.int 1), .val (.ref da), .val (.int 1), .val (.int 2), .val (.int 1), .val (.int ce0)] []))
    refine oT (fun _ u => XS.aloadN X3.here hx rfl (hb hby d10_10) rfl rfl u) ?_
    refine oT (fun _ u => XS.iloadN X3.here hx rfl (hb hby d10_11) rfl u) ?_
    obtain ⟨cl4, Ar4, q4, S4, M4, H4, G4⟩ := id (V_c.other W3 ne_ca_da)
    have hin4 : ¬ ((1 : Int32) < 0 ∨ cl4.slots.size ≤ ((1 : Int32)).toNatClampNeg) := inb_of S4 ⟨by decide, by decide⟩
    have hat4 : cl4.slots[((1 : Int32)).toNatClampNeg]? = some (.int ce1) := Has.at H4 hin4 rfl
    refine oT (fun _ u => X3.caload hx (j := (1 : Int32)) (v := (.int ce1)) (by rw [e3]; exact Ar4.1) (State.isArrayOf_alike hZ.alike Ar4.2.1) Ar4.2.2 hin4 hat4 (g := (mkF m 12 #[.val (.ref ca), .val (.int 1), .val (.ref da), .val (.int 1), .val (.int 2), .val (.int 1), .val (.int ce0)] [(.int 1), (.ref ca)])) rfl rfl (hb hby d10_12) _ u) ?_
    show oE _ _ _ _ (T3.setTop (mkF m 13 #[.val (.ref ca), .val (.int 1), .val (.ref da), .val (.int 1), .val (.int 2), .val (.int 1), .val (.int ce0)] [(.int ce1)]))
    refine oT (fun _ u => XS.istore X3.here hx rfl (hb hby d10_13) rfl (l' := #[.val (.ref ca), .val (.int (1 : Int32)), .val (.ref da), .val (.int (1 : Int32)), .val (.int (2 : Int32)), .val (.int (1 : Int32)), .val (.int ce1)]) rfl u) ?_
    refine oT (fun _ u => XS.iload X3.here hx rfl (hb hby d10_15) rfl u) ?_
    refine oT (fun _ u => XS.sipush X3.here hx rfl (hb hby d10_17) u) ?_
    by_cases hc20_5 : (255 : Int32) < ce1
    · -- pc 20: (255 : Int32) < ce1
      refine oT (fun _ u => XS.icmpNo X3.here hx rfl (hb hby d10_20) rfl (tlt hc20_5).2.2.2 u) ?_
      show oE _ _ _ _ (T3.setTop (mkF m 23 #[.val (.ref ca), .val (.int 1), .val (.ref da), .val (.int 1), .val (.int 2), .val (.int 1), .val (.int ce1)] []))
      refine oT (fun _ u => XS.iload X3.here hx rfl (hb hby d10_23) rfl u) ?_
      refine own_leave X3 (v := some (.int (1 : Int32))) (fun h => by rw [Bd.returns] at h; cases h) ?_ (by decide) (by decide) (fun fs hr => retOut X3 hx Bd.returns rfl (Or.inl ⟨rfl, Or.inl rfl, _, rfl⟩) (hb hby d10_25) hr)
      show Q_cp2_2 Z ca da kc kd ce0 ce1 h0 n0 _ T3.heap _
      rw [e3]
      exact Or.inr (Or.inr (⟨rfl, N3, O3, K3, hc20_5⟩))
    · -- pc 20: not (255 : Int32) < ce1
      refine oT (fun _ u => XS.icmpYes X3.here hx rfl (pc0 := 20) (pc' := 26) rfl (hb hby d10_20) rfl (flt hc20_5).2.2.2 (by decide) (by decide) u) ?_
      show oE _ _ _ _ (T3.setTop (mkF m 26 #[.val (.ref ca), .val (.int 1), .val (.ref da), .val (.int 1), .val (.int 2), .val (.int 1), .val (.int ce1)] []))
      refine oT (fun _ u => XS.aloadN X3.here hx rfl (hb hby d10_26) rfl rfl u) ?_
      refine oT (fun _ u => XS.iloadN X3.here hx rfl (hb hby d10_27) rfl u) ?_
      refine oT (fun _ u => XS.iload X3.here hx rfl (hb hby d10_28) rfl u) ?_
      refine oT (fun _ u => XS.i2b X3.here hx rfl (hb hby d10_30) rfl u) ?_
      obtain ⟨cl6, Ar6, q6, S6, M6, H6, G6⟩ := id Vs3
      have hin6 : ¬ ((1 : Int32) < 0 ∨ cl6.slots.size ≤ ((1 : Int32)).toNatClampNeg) := inb_of S6 ⟨by decide, by decide⟩
      obtain ⟨T6, h6, X6, e6, W6, st6⟩ := stB X3 hx hZ e3 Ar6 (j := (1 : Int32)) hin6 (g := (mkF m 31 #[.val (.ref ca), .val (.int 1), .val (.ref da), .val (.int 1), .val (.int 2), .val (.int 1), .val (.int ce1)] [(.int (ce1.toInt8.toInt32)), (.int 1), (.ref da)])) rfl rfl (hb hby d10_31)
      have Vs6 : Arv Z h6 da kd .byte (2 : Int32) [(.int (ce0.toInt8.toInt32)), (.int (nar .byte (ce1.toInt8.toInt32)))] (.int (0 : Int32)) := Arv.set Ar6 q6 S6 M6 H6 G6 (fits_nar_byte _) W6 1 rfl (own_lt rfl)
      rw [show (nar .byte (ce1.toInt8.toInt32)) = (ce1.toInt8.toInt32) from (own_nb _)] at Vs6
      refine oT st6 ?_
      have O6 := O3.wr W6 g_da
      have N6 := Fr.snoc X6 N3 g_da
      have K6 := K3.wr W6 (Or.inl (List.mem_of_getElem? (i := 0) rfl))
      show oE _ _ _ _ (T6.setTop (mkF m 32 #[.val (.ref ca), .val (.int 1), .val (.ref da), .val (.int 1), .val (.int 2), .val (.int 1), .val (.int ce1)] []))
      refine oT (fun _ u => XS.iinc X6.here hx rfl (hb hby d10_32) rfl (l' := #[.val (.ref ca), .val (.int (2 : Int32)), .val (.ref da), .val (.int (1 : Int32)), .val (.int (2 : Int32)), .val (.int (1 : Int32)), .val (.int ce1)]) rfl u) ?_
      show oE _ _ _ _ (T6.setTop (mkF m 35 #[.val (.ref ca), .val (.int 2), .val (.ref da), .val (.int 1), .val (.int 2), .val (.int 1), .val (.int ce1)] []))
      refine oT (fun _ u => XS.iinc X6.here hx rfl (hb hby d10_35) rfl (l' := #[.val (.ref ca), .val (.int (2 : Int32)), .val (.ref da), .val (.int (2 : Int32)), .val (.int (2 : Int32)), .val (.int (1 : Int32)), .val (.int ce1)]) rfl u) ?_
      show oE _ _ _ _ (T6.setTop (mkF m 38 #[.val (.ref ca), .val (.int 2), .val (.ref da), .val (.int 2), .val (.int 2), .val (.int 1), .val (.int ce1)] []))
      refine oT (fun _ u => XS.iinc X6.here hx rfl (hb hby d10_38) rfl (l' := #[.val (.ref ca), .val (.int (2 : Int32)), .val (.ref da), .val (.int (2 : Int32)), .val (.int (2 : Int32)), .val (.int (2 : Int32)), .val (.int ce1)]) rfl u) ?_
      show oE _ _ _ _ (T6.setTop (mkF m 41 #[.val (.ref ca), .val (.int 2), .val (.ref da), .val (.int 2), .val (.int 2), .val (.int 2), .val (.int ce1)] []))
      refine oT (fun _ u => XS.goto X6.here hx rfl (pc0 := 41) (pc' := 3) rfl (hb hby d10_41) (by decide) (by decide) u) ?_
      refine oT (fun _ u => XS.iload X6.here hx rfl (hb hby d10_3) rfl u) ?_
      refine oT (fun _ u => XS.iload X6.here hx rfl (hb hby d10_5) rfl u) ?_
      refine oT (fun _ u => XS.icmpYes X6.here hx rfl (pc0 := 7) (pc' := 44) rfl (hb hby d10_7) rfl (flt (by decide)).2.1 (by decide) (by decide) u) ?_
      show oE _ _ _ _ (T6.setTop (mkF m 44 #[.val (.ref ca), .val (.int 2), .val (.ref da), .val (.int 2), .val (.int 2), .val (.int 2), .val (.int ce1)] []))
      refine oT (fun _ u => XS.iload X6.here hx rfl (hb hby d10_44) rfl u) ?_
      refine own_leave X6 (v := some (.int (2 : Int32))) (fun h => by rw [Bd.returns] at h; cases h) ?_ (by decide) (by decide) (fun fs hr => retOut X6 hx Bd.returns rfl (Or.inl ⟨rfl, Or.inl rfl, _, rfl⟩) (hb hby d10_46) hr)
      show Q_cp2_2 Z ca da kc kd ce0 ce1 h0 n0 _ T6.heap _
      rw [e6]
      exact Or.inl ⟨rfl, N6, O6, K6, Vs6, hc20_2, hc20_5⟩
theorem ef_cp1_2 (m : MethodId) (ca : Addr) (cs_ : Int32) (rf_ : Value) (kc : ClassId) (ce0 : Int32) (ce1 : Int32) : entryFrame m #[(.ref ca), (.int (0 : Int32)), (.int (2 : Int32))] 6 = mkF m 0 #[.val (.ref ca), .val (.int (0 : Int32)), .val (.int (2 : Int32)), .unset, .unset, .unset] [] := by first | (simp [entryFrame, mkF, argsToLocals, Value.category]; done) | rfl | (rcases ref_cases hrf with rfl | ⟨q, rfl⟩ <;> rfl)
def Q_cp1_2 (Z : State) (ca : Addr) (cs_ : Int32) (rf_ : Value) (kc : ClassId) (ce0 : Int32) (ce1 : Int32) (h0 : Heap) (n0 : Nat) (v : Option Value) (h : Heap) (L : List Loc) : Prop := (∃ (b : Addr) (kb : ClassId), v = some (.ref b) ∧ n0 ≤ b ∧ h0.size ≤ b ∧ Fr n0 L ∧ Old Z n0 h ∧ Keep h0 h [] ∧ Arv Z h b kb .byte (2 : Int32) [(.int (ce0.toInt8.toInt32)), (.int (ce1.toInt8.toInt32))] (.int (0 : Int32)) ∧ ¬ (255 : Int32) < ce0 ∧ ¬ (255 : Int32) < ce1) ∨ (∃ (b : Addr) (kb : ClassId), v = some (.ref b) ∧ n0 ≤ b ∧ h0.size ≤ b ∧ Fr n0 L ∧ Old Z n0 h ∧ Keep h0 h [] ∧ Arv Z h b kb .byte (4 : Int32) [(.int ((ce0 >>> ((0 : Int32) &&& 31)).toInt8.toInt32)), (.int ((ce0 >>> ((8 : Int32) &&& 31)).toInt8.toInt32)), (.int ((ce1 >>> ((0 : Int32) &&& 31)).toInt8.toInt32)), (.int ((ce1 >>> ((8 : Int32) &&& 31)).toInt8.toInt32))] (.int (0 : Int32)))
theorem cp1_2 (l : Launch) (Z : State) (a0 : Array Value) (hw : ∀ d ∈ tables_1, d.before a0 Z = true) (ws : List Jvm.Cond) (ca : Addr) (cs_ : Int32) (rf_ : Value) (kc : ClassId) (ce0 : Int32) (ce1 : Int32) (h0 : Heap) (n0 : Nat) (O0 : Old Z n0 h0) (HS : own_HS Z cs_ rf_) (V_c : Arv Z h0 ca kc .char (2 : Int32) [(.int ce0), (.int ce1)] (.int (0 : Int32))) (HE0 : own_Ch ce0) (HE1 : own_Ch ce1) :
    MetFree l oM14 (head1 (Jvm.Cond.code oM14 jdk_52_method_16_code 6 (some (.array .byte)) :: ws) ({ frames := 3, cells := 2, slots := 6, locals := 58 } : Room)) (fun aq_ U => aq_ = #[(.ref ca), (.int (0 : Int32)), (.int (2 : Int32))] ∧ Z.Warmed39 U.vm ∧ U.heap = h0) (fun _ _ _ _ _ => True) (fun _ U o U' => ∃ v L, o = .returned v ∧ Q_cp1_2 Z ca cs_ rf_ kc ce0 ce1 h0 n0 v U'.heap L ∧ FrameEnd U o U' L 2 6) := by
  refine MetFree.of_bodySF (plainFor_of_name pn_9) hisR ?_
  intro p e s m args below meth c s₁ Bd hml0 hP hK
  obtain ⟨rfl, hZ, hh⟩ := hP
  have hx := Bd.exec
  have hby := Bd.bytes
  have hml : c.maxLocals = 6 := hml0
  have hown : s.vm.findClass "java/lang/StringUTF16" = some m.cls := findClass_of_methodNamed Bd.named
  have hnm := (name_of_methodNamed Bd.named Bd.method).1
  have X0 : Stand p l e ({ frames := 3, cells := 2, slots := 6, locals := 58 } : Room) s m #[(.ref ca), (.int (0 : Int32)), (.int (2 : Int32))] below meth c s₁ [] 0 0 := Stand.of_body Bd
  have e0 : s₁.heap = h0 := by rw [← hh, Bd.state]; rfl
  have N0 := Fr.nil n0
  show oE p.tables e below (own_P s (Q_cp1_2 Z ca cs_ rf_ kc ce0 ce1 h0 n0) 2 6) _
  refine own_cast (ef_cp1_2 m ca cs_ rf_ kc ce0 ce1) ?_
  have K0 := Keep.refl h0 []
  show oE _ _ _ _ (s₁.setTop (mkF m 0 #[.val (.ref ca), .val (.int 0), .val (.int 2), .unset, .unset, .unset] []))
  refine oT (fun _ u => XS.iloadN X0.here hx rfl (hb hby d9_0) rfl u) ?_
  obtain ⟨T1, h1, k1, X1, e1, E1, A1, st1⟩ := newP X0 hx hZ (aty := .byte) (ow25 hw) e0 (g := (mkF m 1 #[.val (.ref ca), .val (.int 0), .val (.int 2), .unset, .unset, .unset] [(.int 2)])) rfl (hb hby d9_1) rfl (by decide) (cap := 2) (by decide) (by decide) (by decide) (by decide)
  obtain ⟨b1, g1⟩ : ∃ z, z = h0.size := ⟨_, rfl⟩
  rw [← g1] at A1 st1
  have ne_ca_b1 : ca ≠ b1 := Nat.ne_of_lt (Nat.lt_of_lt_of_le V_c.lt (Nat.le_of_eq g1.symm))
  have g_b1 : n0 ≤ b1 := Nat.le_trans (own_old_le O0) (Nat.le_of_eq g1.symm)
  have sz_b1 : h0.size ≤ b1 := Nat.le_trans K0.1 (Nat.le_of_eq g1.symm)
  refine oT st1 ?_
  have O1 := O0.ext E1
  have K1 := K0.ext E1
  have Vn1 : Arv Z h1 b1 k1 .byte (2 : Int32) [(.int (0 : Int32)), (.int (0 : Int32))] (.int (0 : Int32)) := (Arv.new A1 (by decide)).pad (pad_rep [] (.int (0 : Int32)) 2)
  show oE _ _ _ _ (T1.setTop (mkF m 3 #[.val (.ref ca), .val (.int 0), .val (.int 2), .unset, .unset, .unset] [(.ref b1)]))
  refine oT (fun _ u => XS.astoreN X1.here hx rfl (hb hby d9_3) rfl rfl (l' := #[.val (.ref ca), .val (.int (0 : Int32)), .val (.int (2 : Int32)), .val (.ref b1), .unset, .unset]) rfl u) ?_
  refine oT (fun _ u => XS.aloadN X1.here hx rfl (hb hby d9_4) rfl rfl u) ?_
  refine oT (fun _ u => XS.iloadN X1.here hx rfl (hb hby d9_5) rfl u) ?_
  refine oT (fun _ u => XS.aloadN X1.here hx rfl (hb hby d9_6) rfl rfl u) ?_
  refine oT (fun _ u => XS.iconst X1.here hx rfl (hb hby d9_7) u) ?_
  refine oT (fun _ u => XS.iloadN X1.here hx rfl (hb hby d9_8) rfl u) ?_
  show oE _ _ _ _ (T1.setTop (mkF m 9 #[.val (.ref ca), .val (.int 0), .val (.int 2), .val (.ref b1), .unset, .unset] [(.int 2), (.int 0), (.ref b1), (.int 0), (.ref ca)]))
  obtain ⟨_, _, ⟨T2, L2, k2, n2⟩, -, X2, ⟨Lc2, hQ2, l2, y2, z2⟩, st2⟩ := Jvm.LawKit.callS X1 hx (y := oM13) hown (mvT hZ (ow51 hw)) (mvT hZ (ow52 hw)) (mvT hZ (ow49 hw)) (mvT hZ (ow53 hw)) (by decide) (backOf (W := 0) (cp2_2 l Z a0 hw [] ca b1 kc k1 ce0 ce1 h1 n0 O1 (V_c.ext E1) Vn1 g_b1 ne_ca_b1) hZ (ow53 hw) (ow49 hw) (by decide) (by decide)) (g := (mkF m 9 #[.val (.ref ca), .val (.int 0), .val (.int 2), .val (.ref b1), .unset, .unset] [(.int 2), (.int 0), (.ref b1), (.int 0), (.ref ca)])) rfl (by rw [hml]; rfl) (argsL := [(.ref ca), (.int (0 : Int32)), (.ref b1), (.int (0 : Int32)), (.int (2 : Int32))]) (rest := []) (lenOf pd_5 rfl) rfl (by show 2 * 0 + _ ≤ _; exact Nat.le_of_eq rfl) (hb hby d9_9) (fun _ _ => ⟨rfl, e1, (own_le rfl), (own_le rfl)⟩)
  dsimp only [Pt.U, Pt.locs, Pt.cells, Pt.slots] at X2 l2 y2 z2 st2 hQ2
  subst y2 z2
  rcases hQ2 with ⟨rfl, N2q, Oq2, Kq2, Vx2, le0, le1⟩ | ⟨rfl, N2q, Oq2, Kq2, gt0⟩ | ⟨rfl, N2q, Oq2, Kq2, gt1⟩
  · skip
    refine oT st2 ?_
    show oE _ _ _ _ (T2.setTop (mkF m 12 #[.val (.ref ca), .val (.int 0), .val (.int 2), .val (.ref b1), .unset, .unset] [(.int 2)]))
    have N2 := own_fr l2 N0 N2q
    have KK2 := K1.trans Kq2 (allS (Or.inr sz_b1) all0)
    show oE _ _ _ _ (T2.setTop (mkF m 12 #[.val (.ref ca), .val (.int 0), .val (.int 2), .val (.ref b1), .unset, .unset] [(.int 2)]))
    refine oT (fun _ u => XS.istore X2.here hx rfl (hb hby d9_12) rfl (l' := #[.val (.ref ca), .val (.int (0 : Int32)), .val (.int (2 : Int32)), .val (.ref b1), .val (.int (2 : Int32)), .unset]) rfl u) ?_
    refine oT (fun _ u => XS.iload X2.here hx rfl (hb hby d9_14) rfl u) ?_
    refine oT (fun _ u => XS.iloadN X2.here hx rfl (hb hby d9_16) rfl u) ?_
    refine oT (fun _ u => XS.icmpYes X2.here hx rfl (pc0 := 17) (pc' := 57) rfl (hb hby d9_17) rfl (teq (by decide)).1 (by decide) (by decide) u) ?_
    show oE _ _ _ _ (T2.setTop (mkF m 57 #[.val (.ref ca), .val (.int 0), .val (.int 2), .val (.ref b1), .val (.int 2), .unset] []))
    refine oT (fun _ u => XS.aloadN X2.here hx rfl (hb hby d9_57) rfl rfl u) ?_
    refine own_leave X2 (v := some (.ref b1)) (fun h => by rw [Bd.returns] at h; cases h) ?_ (by decide) (by decide) (fun fs hr => retOut X2 hx Bd.returns rfl (Or.inr (Or.inr (Or.inr (Or.inr ⟨rfl, rfl, rfl⟩)))) (hb hby d9_58) hr)
    show Q_cp1_2 Z ca cs_ rf_ kc ce0 ce1 h0 n0 _ T2.heap _
    exact Or.inl ⟨b1, k1, rfl, g_b1, sz_b1, N2, Oq2, KK2, Vx2, le0, le1⟩
  · skip
    refine oT st2 ?_
    show oE _ _ _ _ (T2.setTop (mkF m 12 #[.val (.ref ca), .val (.int 0), .val (.int 2), .val (.ref b1), .unset, .unset] [(.int 0)]))
    have N2 := own_fr l2 N0 N2q
    have KK2 := K1.trans Kq2 (allS (Or.inr sz_b1) all0)
    show oE _ _ _ _ (T2.setTop (mkF m 12 #[.val (.ref ca), .val (.int 0), .val (.int 2), .val (.ref b1), .unset, .unset] [(.int 0)]))
    refine oT (fun _ u => XS.istore X2.here hx rfl (hb hby d9_12) rfl (l' := #[.val (.ref ca), .val (.int (0 : Int32)), .val (.int (2 : Int32)), .val (.ref b1), .val (.int (0 : Int32)), .unset]) rfl u) ?_
    refine oT (fun _ u => XS.iload X2.here hx rfl (hb hby d9_14) rfl u) ?_
    refine oT (fun _ u => XS.iloadN X2.here hx rfl (hb hby d9_16) rfl u) ?_
    refine oT (fun _ u => XS.icmpNo X2.here hx rfl (hb hby d9_17) rfl (feq (by decide)).1 u) ?_
    show oE _ _ _ _ (T2.setTop (mkF m 20 #[.val (.ref ca), .val (.int 0), .val (.int 2), .val (.ref b1), .val (.int 0), .unset] []))
    refine oT (fun _ u => XS.aloadN X2.here hx rfl (hb hby d9_20) rfl rfl u) ?_
    refine oT (fun _ u => XS.iloadN X2.here hx rfl (hb hby d9_21) rfl u) ?_
    refine oT (fun _ u => XS.iloadN X2.here hx rfl (hb hby d9_22) rfl u) ?_
    obtain ⟨_, _, ⟨T3, L3, k3, n3⟩, -, X3, ⟨Lc3, hQ3, l3, y3, z3⟩, st3⟩ := Jvm.LawKit.callS X2 hx (y := oM11) hown (mvT hZ (ow89 hw)) (mvT hZ (ow90 hw)) (mvT hZ (ow49 hw)) (mvT hZ (ow91 hw)) (by decide) (backOf (W := 0) (rmTB2 l Z a0 hw [] ca cs_ rf_ kc ce0 ce1 T2.heap n0 Oq2 HS ((V_c.ext E1).keep Kq2 (ninS ne_ca_b1 nin0))) hZ (ow91 hw) (ow49 hw) (by decide) (by decide)) (g := (mkF m 23 #[.val (.ref ca), .val (.int 0), .val (.int 2), .val (.ref b1), .val (.int 0), .unset] [(.int 2), (.int 0), (.ref ca)])) rfl (by rw [hml]; rfl) (argsL := [(.ref ca), (.int (0 : Int32)), (.int (2 : Int32))]) (rest := []) (lenOf pd_6 rfl) rfl (by show 2 * 0 + _ ≤ _; exact Nat.le_of_eq rfl) (hb hby d9_23) (fun _ _ => ⟨rfl, rfl, (own_le rfl), (own_le rfl)⟩)
    dsimp only [Pt.U, Pt.locs, Pt.cells, Pt.slots] at X3 l3 y3 z3 st3 hQ3
    subst y3 z3
    obtain ⟨u3, ku3, rfl, g_u3, sq_u3, N3q, Oq3, Kq3, Vx3⟩ := hQ3
    have N3 := own_fr l3 N2 N3q
    have ne_ca_u3 : ca ≠ u3 := Nat.ne_of_lt (Nat.lt_of_lt_of_le ((V_c.ext E1).keep Kq2 (ninS ne_ca_b1 nin0)).lt sq_u3)
    have sz_u3 : h0.size ≤ u3 := Nat.le_trans KK2.1 sq_u3
    have KK3 := KK2.trans Kq3 all0
    refine oT st3 ?_
    show oE _ _ _ _ (T3.setTop (mkF m 26 #[.val (.ref ca), .val (.int 0), .val (.int 2), .val (.ref b1), .val (.int 0), .unset] [(.ref u3)]))
    refine oT (fun _ u => XS.astore X3.here hx rfl (hb hby d9_26) rfl rfl (l' := #[.val (.ref ca), .val (.int (0 : Int32)), .val (.int (2 : Int32)), .val (.ref b1), .val (.int (0 : Int32)), .val (.ref u3)]) rfl u) ?_
    refine oT (fun _ u => XS.aload X3.here hx rfl (hb hby d9_28) rfl rfl u) ?_
    refine oT (fun _ u => XS.iload X3.here hx rfl (hb hby d9_30) rfl u) ?_
    obtain ⟨_, _, ⟨T4, L4, k4, n4⟩, -, X4, ⟨Lc4, hQ4, l4, y4, z4⟩, st4⟩ := Jvm.LawKit.callS X3 hx (y := oM8) hown (mvT hZ (ow105 hw)) (mvT hZ (ow106 hw)) (mvT hZ (ow49 hw)) (mvT hZ (ow107 hw)) (by decide) (backOf (W := 0) (rmGC l Z a0 hw [] u3 (0 : Int32) cs_ rf_ ku3 (4 : Int32) [(.int ((ce0 >>> ((0 : Int32) &&& 31)).toInt8.toInt32)), (.int ((ce0 >>> ((8 : Int32) &&& 31)).toInt8.toInt32)), (.int ((ce1 >>> ((0 : Int32) &&& 31)).toInt8.toInt32)), (.int ((ce1 >>> ((8 : Int32) &&& 31)).toInt8.toInt32))] ((ce0 >>> ((0 : Int32) &&& 31)).toInt8.toInt32) ((ce0 >>> ((8 : Int32) &&& 31)).toInt8.toInt32) T3.heap n0 Oq3 HS Vx3 ⟨by decide, by decide⟩ ⟨by decide, by decide⟩ rfl rfl) hZ (ow107 hw) (ow49 hw) (by decide) (by decide)) (g := (mkF m 32 #[.val (.ref ca), .val (.int 0), .val (.int 2), .val (.ref b1), .val (.int 0), .val (.ref u3)] [(.int 0), (.ref u3)])) rfl (by rw [hml]; rfl) (argsL := [(.ref u3), (.int (0 : Int32))]) (rest := []) (lenOf pd_7 rfl) rfl (by show 2 * 0 + _ ≤ _; exact Nat.le_of_eq rfl) (hb hby d9_32) (fun _ _ => ⟨rfl, rfl, (own_le rfl), (own_le rfl)⟩)
    dsimp only [Pt.U, Pt.locs, Pt.cells, Pt.slots] at X4 l4 y4 z4 st4 hQ4
    subst y4 z4
    obtain ⟨hv4, N4q, E4⟩ := hQ4
    rw [own_utf HE0] at hv4
    subst hv4
    have N4 := own_fr l4 N3 N4q
    refine oT st4 ?_
    show oE _ _ _ _ (T4.setTop (mkF m 35 #[.val (.ref ca), .val (.int 0), .val (.int 2), .val (.ref b1), .val (.int 0), .val (.ref u3)] [(.int ce0)]))
    refine oT (fun _ u => XS.sipush X4.here hx rfl (hb hby d9_35) u) ?_
    refine oT (fun _ u => XS.icmpYes X4.here hx rfl (pc0 := 38) (pc' := 54) rfl (hb hby d9_38) rfl (tlt gt0).2.2.1 (by decide) (by decide) u) ?_
    show oE _ _ _ _ (T4.setTop (mkF m 54 #[.val (.ref ca), .val (.int 0), .val (.int 2), .val (.ref b1), .val (.int 0), .val (.ref u3)] []))
    refine oT (fun _ u => XS.aload X4.here hx rfl (hb hby d9_54) rfl rfl u) ?_
    refine own_leave X4 (v := some (.ref u3)) (fun h => by rw [Bd.returns] at h; cases h) ?_ (by decide) (by decide) (fun fs hr => retOut X4 hx Bd.returns rfl (Or.inr (Or.inr (Or.inr (Or.inr ⟨rfl, rfl, rfl⟩)))) (hb hby d9_56) hr)
    show Q_cp1_2 Z ca cs_ rf_ kc ce0 ce1 h0 n0 _ T4.heap _
    rw [E4]
    exact Or.inr ⟨u3, ku3, rfl, g_u3, sz_u3, N4, Oq3, KK3, Vx3⟩
  · skip
    refine oT st2 ?_
    show oE _ _ _ _ (T2.setTop (mkF m 12 #[.val (.ref ca), .val (.int 0), .val (.int 2), .val (.ref b1), .unset, .unset] [(.int 1)]))
    have N2 := own_fr l2 N0 N2q
    have KK2 := K1.trans Kq2 (allS (Or.inr sz_b1) all0)
    show oE _ _ _ _ (T2.setTop (mkF m 12 #[.val (.ref ca), .val (.int 0), .val (.int 2), .val (.ref b1), .unset, .unset] [(.int 1)]))
    refine oT (fun _ u => XS.istore X2.here hx rfl (hb hby d9_12) rfl (l' := #[.val (.ref ca), .val (.int (0 : Int32)), .val (.int (2 : Int32)), .val (.ref b1), .val (.int (1 : Int32)), .unset]) rfl u) ?_
    refine oT (fun _ u => XS.iload X2.here hx rfl (hb hby d9_14) rfl u) ?_
    refine oT (fun _ u => XS.iloadN X2.here hx rfl (hb hby d9_16) rfl u) ?_
    refine oT (fun _ u => XS.icmpNo X2.here hx rfl (hb hby d9_17) rfl (feq (by decide)).1 u) ?_
    show oE _ _ _ _ (T2.setTop (mkF m 20 #[.val (.ref ca), .val (.int 0), .val (.int 2), .val (.ref b1), .val (.int 1), .unset] []))
    refine oT (fun _ u => XS.aloadN X2.here hx rfl (hb hby d9_20) rfl rfl u) ?_
    refine oT (fun _ u => XS.iloadN X2.here hx rfl (hb hby d9_21) rfl u) ?_
    refine oT (fun _ u => XS.iloadN X2.here hx rfl (hb hby d9_22) rfl u) ?_
    obtain ⟨_, _, ⟨T5, L5, k5, n5⟩, -, X5, ⟨Lc5, hQ5, l5, y5, z5⟩, st5⟩ := Jvm.LawKit.callS X2 hx (y := oM11) hown (mvT hZ (ow89 hw)) (mvT hZ (ow90 hw)) (mvT hZ (ow49 hw)) (mvT hZ (ow91 hw)) (by decide) (backOf (W := 0) (rmTB2 l Z a0 hw [] ca cs_ rf_ kc ce0 ce1 T2.heap n0 Oq2 HS ((V_c.ext E1).keep Kq2 (ninS ne_ca_b1 nin0))) hZ (ow91 hw) (ow49 hw) (by decide) (by decide)) (g := (mkF m 23 #[.val (.ref ca), .val (.int 0), .val (.int 2), .val (.ref b1), .val (.int 1), .unset] [(.int 2), (.int 0), (.ref ca)])) rfl (by rw [hml]; rfl) (argsL := [(.ref ca), (.int (0 : Int32)), (.int (2 : Int32))]) (rest := []) (lenOf pd_6 rfl) rfl (by show 2 * 0 + _ ≤ _; exact Nat.le_of_eq rfl) (hb hby d9_23) (fun _ _ => ⟨rfl, rfl, (own_le rfl), (own_le rfl)⟩)
    dsimp only [Pt.U, Pt.locs, Pt.cells, Pt.slots] at X5 l5 y5 z5 st5 hQ5
    subst y5 z5
    obtain ⟨u5, ku5, rfl, g_u5, sq_u5, N5q, Oq5, Kq5, Vx5⟩ := hQ5
    have N5 := own_fr l5 N2 N5q
    have ne_ca_u5 : ca ≠ u5 := Nat.ne_of_lt (Nat.lt_of_lt_of_le ((V_c.ext E1).keep Kq2 (ninS ne_ca_b1 nin0)).lt sq_u5)
    have sz_u5 : h0.size ≤ u5 := Nat.le_trans KK2.1 sq_u5
    have KK5 := KK2.trans Kq5 all0
    refine oT st5 ?_
    show oE _ _ _ _ (T5.setTop (mkF m 26 #[.val (.ref ca), .val (.int 0), .val (.int 2), .val (.ref b1), .val (.int 1), .unset] [(.ref u5)]))
    refine oT (fun _ u => XS.astore X5.here hx rfl (hb hby d9_26) rfl rfl (l' := #[.val (.ref ca), .val (.int (0 : Int32)), .val (.int (2 : Int32)), .val (.ref b1), .val (.int (1 : Int32)), .val (.ref u5)]) rfl u) ?_
    refine oT (fun _ u => XS.aload X5.here hx rfl (hb hby d9_28) rfl rfl u) ?_
    refine oT (fun _ u => XS.iload X5.here hx rfl (hb hby d9_30) rfl u) ?_
    obtain ⟨_, _, ⟨T6, L6, k6, n6⟩, -, X6, ⟨Lc6, hQ6, l6, y6, z6⟩, st6⟩ := Jvm.LawKit.callS X5 hx (y := oM8) hown (mvT hZ (ow105 hw)) (mvT hZ (ow106 hw)) (mvT hZ (ow49 hw)) (mvT hZ (ow107 hw)) (by decide) (backOf (W := 0) (rmGC l Z a0 hw [] u5 (1 : Int32) cs_ rf_ ku5 (4 : Int32) [(.int ((ce0 >>> ((0 : Int32) &&& 31)).toInt8.toInt32)), (.int ((ce0 >>> ((8 : Int32) &&& 31)).toInt8.toInt32)), (.int ((ce1 >>> ((0 : Int32) &&& 31)).toInt8.toInt32)), (.int ((ce1 >>> ((8 : Int32) &&& 31)).toInt8.toInt32))] ((ce1 >>> ((0 : Int32) &&& 31)).toInt8.toInt32) ((ce1 >>> ((8 : Int32) &&& 31)).toInt8.toInt32) T5.heap n0 Oq5 HS Vx5 ⟨by decide, by decide⟩ ⟨by decide, by decide⟩ rfl rfl) hZ (ow107 hw) (ow49 hw) (by decide) (by decide)) (g := (mkF m 32 #[.val (.ref ca), .val (.int 0), .val (.int 2), .val (.ref b1), .val (.int 1), .val (.ref u5)] [(.int 1), (.ref u5)])) rfl (by rw [hml]; rfl) (argsL := [(.ref u5), (.int (1 : Int32))]) (rest := []) (lenOf pd_7 rfl) rfl (by show 2 * 0 + _ ≤ _; exact Nat.le_of_eq rfl) (hb hby d9_32) (fun _ _ => ⟨rfl, rfl, (own_le rfl), (own_le rfl)⟩)
    dsimp only [Pt.U, Pt.locs, Pt.cells, Pt.slots] at X6 l6 y6 z6 st6 hQ6
    subst y6 z6
    obtain ⟨hv6, N6q, E6⟩ := hQ6
    rw [own_utf HE1] at hv6
    subst hv6
    have N6 := own_fr l6 N5 N6q
    refine oT st6 ?_
    show oE _ _ _ _ (T6.setTop (mkF m 35 #[.val (.ref ca), .val (.int 0), .val (.int 2), .val (.ref b1), .val (.int 1), .val (.ref u5)] [(.int ce1)]))
    refine oT (fun _ u => XS.sipush X6.here hx rfl (hb hby d9_35) u) ?_
    refine oT (fun _ u => XS.icmpYes X6.here hx rfl (pc0 := 38) (pc' := 54) rfl (hb hby d9_38) rfl (tlt gt1).2.2.1 (by decide) (by decide) u) ?_
    show oE _ _ _ _ (T6.setTop (mkF m 54 #[.val (.ref ca), .val (.int 0), .val (.int 2), .val (.ref b1), .val (.int 1), .val (.ref u5)] []))
    refine oT (fun _ u => XS.aload X6.here hx rfl (hb hby d9_54) rfl rfl u) ?_
    refine own_leave X6 (v := some (.ref u5)) (fun h => by rw [Bd.returns] at h; cases h) ?_ (by decide) (by decide) (fun fs hr => retOut X6 hx Bd.returns rfl (Or.inr (Or.inr (Or.inr (Or.inr ⟨rfl, rfl, rfl⟩)))) (hb hby d9_56) hr)
    show Q_cp1_2 Z ca cs_ rf_ kc ce0 ce1 h0 n0 _ T6.heap _
    rw [E6]
    exact Or.inr ⟨u5, ku5, rfl, g_u5, sz_u5, N6, Oq5, KK5, Vx5⟩
theorem ef_in4_2 (m : MethodId) (a : Addr) (ca : Addr) (cs_ : Int32) (rf_ : Value) (kc : ClassId) (ce0 : Int32) (ce1 : Int32) : entryFrame m #[(.ref a), (.ref ca), (.int (0 : Int32)), (.int (2 : Int32)), .null] 6 = mkF m 0 #[.val (.ref a), .val (.ref ca), .val (.int (0 : Int32)), .val (.int (2 : Int32)), .val .null, .unset] [] := by first | (simp [entryFrame, mkF, argsToLocals, Value.category]; done) | rfl | (rcases ref_cases hrf with rfl | ⟨q, rfl⟩ <;> rfl)
def Q_in4_2 (Z : State) (a : Addr) (ca : Addr) (cs_ : Int32) (rf_ : Value) (kc : ClassId) (ce0 : Int32) (ce1 : Int32) (h0 : Heap) (n0 : Nat) (v : Option Value) (h : Heap) (L : List Loc) : Prop := v = none ∧ Fr n0 L ∧ Old Z n0 h ∧ Keep h0 h [a] ∧ own_Tx2 Z h a ce0 ce1
theorem in4_2 (l : Launch) (Z : State) (a0 : Array Value) (hw : ∀ d ∈ tables_1, d.before a0 Z = true) (ws : List Jvm.Cond) (a : Addr) (ca : Addr) (cs_ : Int32) (rf_ : Value) (kc : ClassId) (ce0 : Int32) (ce1 : Int32) (h0 : Heap) (n0 : Nat) (O0 : Old Z n0 h0) (g_a : n0 ≤ a) (E_a : Exa Z h0 a "java/lang/String") (F_v : Fld Z h0 a "java/lang/String" "value" "[B" .null) (F_c : Fld Z h0 a "java/lang/String" "coder" "B" (.int (0 : Int32))) (V_c : Arv Z h0 ca kc .char (2 : Int32) [(.int ce0), (.int ce1)] (.int (0 : Int32))) (ne_ca_a : ca ≠ a) (HS : own_HS Z cs_ rf_) (HE0 : own_Ch ce0) (HE1 : own_Ch ce1) :
    MetFree l oM15 (head1 (Jvm.Cond.code oM15 jdk_42_method_149_code 6 none :: ws) ({ frames := 4, cells := 2, slots := 6, locals := 80 } : Room)) (fun aq_ U => aq_ = #[(.ref a), (.ref ca), (.int (0 : Int32)), (.int (2 : Int32)), .null] ∧ Z.Warmed39 U.vm ∧ U.heap = h0) (fun _ _ _ _ _ => True) (fun _ U o U' => ∃ v L, o = .returned v ∧ Q_in4_2 Z a ca cs_ rf_ kc ce0 ce1 h0 n0 v U'.heap L ∧ FrameEnd U o U' L 2 6) := by
  refine MetFree.of_bodySF (plainFor_of_name pn_4) hisR ?_
  intro p e s m args below meth c s₁ Bd hml0 hP hK
  obtain ⟨rfl, hZ, hh⟩ := hP
  have hx := Bd.exec
  have hby := Bd.bytes
  have hml : c.maxLocals = 6 := hml0
  have hown : s.vm.findClass "java/lang/String" = some m.cls := findClass_of_methodNamed Bd.named
  have hnm := (name_of_methodNamed Bd.named Bd.method).1
  have X0 : Stand p l e ({ frames := 4, cells := 2, slots := 6, locals := 80 } : Room) s m #[(.ref a), (.ref ca), (.int (0 : Int32)), (.int (2 : Int32)), .null] below meth c s₁ [] 0 0 := Stand.of_body Bd
  have e0 : s₁.heap = h0 := by rw [← hh, Bd.state]; rfl
  have N0 := Fr.nil n0
  show oE p.tables e below (own_P s (Q_in4_2 Z a ca cs_ rf_ kc ce0 ce1 h0 n0) 2 6) _
  refine own_cast (ef_in4_2 m a ca cs_ rf_ kc ce0 ce1) ?_
  have K0 := Keep.refl h0 [a]
  show oE _ _ _ _ (s₁.setTop (mkF m 0 #[.val (.ref a), .val (.ref ca), .val (.int 0), .val (.int 2), .val .null, .unset] []))
  refine oT (fun _ u => XS.aloadN X0.here hx rfl (hb hby d4_0) rfl rfl u) ?_
  obtain ⟨T1, X1, e1, st1⟩ := initO X0 hx hZ hown (ow21 hw) (ow22 hw) (ow23 hw) e0 (g := (mkF m 1 #[.val (.ref a), .val (.ref ca), .val (.int 0), .val (.int 2), .val .null, .unset] [(.ref a)])) rfl (by rw [hml]; rfl) rfl (hb hby d4_1) (by decide) (W := 0) (by show 2 * 0 + _ ≤ _; exact Nat.le_of_eq rfl) (by decide)
  refine oT st1 ?_
  show oE _ _ _ _ (T1.setTop (mkF m 4 #[.val (.ref a), .val (.ref ca), .val (.int 0), .val (.int 2), .val .null, .unset] []))
  refine oT (fun _ u => XS.iloadN X1.here hx rfl (hb hby d4_4) rfl u) ?_
  refine oT (fun _ u => XS.ifYes X1.here hx rfl (pc0 := 5) (pc' := 27) rfl (hb hby d4_5) rfl ((if0 _ _).trans (feq (by decide)).2) (by decide) (by decide) u) ?_
  show oE _ _ _ _ (T1.setTop (mkF m 27 #[.val (.ref a), .val (.ref ca), .val (.int 0), .val (.int 2), .val .null, .unset] []))
  obtain ⟨T2, X2, e2, st2⟩ := getS2 X1 hx hZ hown (host := "") (Or.inl (ow46 hw)) Via.refl e1 (HS.1.ext O0.2) (g := (mkF m 27 #[.val (.ref a), .val (.ref ca), .val (.int 0), .val (.int 2), .val .null, .unset] [])) rfl (hb hby d4_27)
  refine oT st2 ?_
  show oE _ _ _ _ (T2.setTop (mkF m 30 #[.val (.ref a), .val (.ref ca), .val (.int 0), .val (.int 2), .val .null, .unset] [(.int cs_)]))
  refine oT (fun _ u => XS.ifNo X2.here hx rfl (hb hby d4_30) rfl ((if0 _ _).trans (feq HS.2.2.2.2.2.1).1) u) ?_
  show oE _ _ _ _ (T2.setTop (mkF m 33 #[.val (.ref a), .val (.ref ca), .val (.int 0), .val (.int 2), .val .null, .unset] []))
  refine oT (fun _ u => XS.aloadN X2.here hx rfl (hb hby d4_33) rfl rfl u) ?_
  refine oT (fun _ u => XS.iloadN X2.here hx rfl (hb hby d4_34) rfl u) ?_
  refine oT (fun _ u => XS.iloadN X2.here hx rfl (hb hby d4_35) rfl u) ?_
  obtain ⟨_, _, ⟨T3, L3, k3, n3⟩, -, X3, ⟨Lc3, hQ3, l3, y3, z3⟩, st3⟩ := Jvm.LawKit.callS X2 hx (y := oM14) hown (mvT hZ (ow47 hw)) (mvT hZ (ow48 hw)) (mvT hZ (ow49 hw)) (mvT hZ (ow50 hw)) (by decide) (backOf (W := 0) (cp1_2 l Z a0 hw [] ca cs_ rf_ kc ce0 ce1 h0 n0 O0 HS V_c HE0 HE1) hZ (ow50 hw) (ow49 hw) (by decide) (by decide)) (g := (mkF m 36 #[.val (.ref a), .val (.ref ca), .val (.int 0), .val (.int 2), .val .null, .unset] [(.int 2), (.int 0), (.ref ca)])) rfl (by rw [hml]; rfl) (argsL := [(.ref ca), (.int (0 : Int32)), (.int (2 : Int32))]) (rest := []) (lenOf pd_6 rfl) rfl (by show 2 * 0 + _ ≤ _; exact Nat.le_of_eq rfl) (hb hby d4_36) (fun _ _ => ⟨rfl, e2, (own_le rfl), (own_le rfl)⟩)
  dsimp only [Pt.U, Pt.locs, Pt.cells, Pt.slots] at X3 l3 y3 z3 st3 hQ3
  subst y3 z3
  rcases hQ3 with ⟨u3, ku3, rfl, g_u3, sq_u3, N3q, Oq3, Kq3, Vx3, le0, le1⟩ | ⟨u3, ku3, rfl, g_u3, sq_u3, N3q, Oq3, Kq3, Vx3⟩
  · skip
    refine oT st3 ?_
    show oE _ _ _ _ (T3.setTop (mkF m 39 #[.val (.ref a), .val (.ref ca), .val (.int 0), .val (.int 2), .val .null, .unset] [(.ref u3)]))
    have N3 := own_fr l3 N0 N3q
    have ne_ca_u3 : ca ≠ u3 := Nat.ne_of_lt (Nat.lt_of_lt_of_le V_c.lt sq_u3)
    have ne_a_u3 : a ≠ u3 := Nat.ne_of_lt (Nat.lt_of_lt_of_le E_a.lt sq_u3)
    have sz_u3 : h0.size ≤ u3 := Nat.le_trans K0.1 sq_u3
    have KK3 := K0.trans Kq3 all0
    show oE _ _ _ _ (T3.setTop (mkF m 39 #[.val (.ref a), .val (.ref ca), .val (.int 0), .val (.int 2), .val .null, .unset] [(.ref u3)]))
    refine oT (fun _ u => XS.astore X3.here hx rfl (hb hby d4_39) rfl rfl (l' := #[.val (.ref a), .val (.ref ca), .val (.int (0 : Int32)), .val (.int (2 : Int32)), .val .null, .val (.ref u3)]) rfl u) ?_
    refine oT (fun _ u => XS.aloadN X3.here hx rfl (hb hby d4_41) rfl rfl u) ?_
    refine oT (fun _ u => XS.aload X3.here hx rfl (hb hby d4_42) rfl rfl u) ?_
    refine oT (fun _ u => XS.iloadN X3.here hx rfl (hb hby d4_44) rfl u) ?_
    obtain ⟨_, _, ⟨T4, L4, k4, n4⟩, -, X4, ⟨Lc4, hQ4, l4, y4, z4⟩, st4⟩ := Jvm.LawKit.callS X3 hx (y := oM12) hown (mvT hZ (ow54 hw)) (mvT hZ (ow55 hw)) (mvT hZ (ow49 hw)) (mvT hZ (ow56 hw)) (by decide) (backOf (W := 1) (rmCF l Z a0 hw [] u3 (2 : Int32) cs_ rf_ ku3 (2 : Int32) [(.int (ce0.toInt8.toInt32)), (.int (ce1.toInt8.toInt32))] T3.heap n0 Oq3 Vx3) hZ (ow56 hw) (ow49 hw) (by decide) (by decide)) (g := (mkF m 45 #[.val (.ref a), .val (.ref ca), .val (.int 0), .val (.int 2), .val .null, .val (.ref u3)] [(.int 2), (.ref u3), (.ref a)])) rfl (by rw [hml]; rfl) (argsL := [(.ref u3), (.int (2 : Int32))]) (rest := [(.ref a)]) (lenOf pd_8 rfl) rfl (by show 2 * 0 + _ ≤ _; exact Nat.le_of_eq rfl) (hb hby d4_45) (fun _ _ => ⟨rfl, rfl, (own_le rfl), (own_le rfl)⟩)
    dsimp only [Pt.U, Pt.locs, Pt.cells, Pt.slots] at X4 l4 y4 z4 st4 hQ4
    subst y4 z4
    obtain ⟨hv4, N4q, E4⟩ := hQ4
    rw [show nar .byte (((((2 : Int32) - (2 : Int32)).toUInt32 >>> ((31 : Int32) &&& 31).toUInt32).toInt32).toInt8.toInt32) = (0 : Int32) from by decide] at hv4
    subst hv4
    have N4 := own_fr l4 N3 N4q
    refine oT st4 ?_
    show oE _ _ _ _ (T4.setTop (mkF m 48 #[.val (.ref a), .val (.ref ca), .val (.int 0), .val (.int 2), .val .null, .val (.ref u3)] [(.int 0), (.ref a)]))
    obtain ⟨T5, h5, X5, e5, W5, st5⟩ := putFN X4 hx hZ hown (ow31 hw) Via.refl E4 (F_c.keep Kq3 nin0) (E_a.keep Kq3) (Or.inr ⟨(ow27 hw), rfl, hnm⟩) (ow8 hw) (ty := .byte) (v' := (.int (nar .byte (0 : Int32)))) (by decide) rfl (fits_nar_byte _) (g := (mkF m 48 #[.val (.ref a), .val (.ref ca), .val (.int 0), .val (.int 2), .val .null, .val (.ref u3)] [(.int 0), (.ref a)])) rfl rfl (hb hby d4_48)
    refine oT st5 ?_
    have Fw5 : Fld Z h5 a "java/lang/String" "coder" "B" (.int (0 : Int32)) := (F_c.keep Kq3 nin0).same W5
    have O5 := Oq3.wr W5 g_a
    have N5 := Fr.snoc X5 N4 g_a
    have K5 := KK3.wr W5 (Or.inl (List.mem_of_getElem? (i := 0) rfl))
    show oE _ _ _ _ (T5.setTop (mkF m 51 #[.val (.ref a), .val (.ref ca), .val (.int 0), .val (.int 2), .val .null, .val (.ref u3)] []))
    refine oT (fun _ u => XS.aloadN X5.here hx rfl (hb hby d4_51) rfl rfl u) ?_
    refine oT (fun _ u => XS.aload X5.here hx rfl (hb hby d4_52) rfl rfl u) ?_
    obtain ⟨T6, h6, X6, e6, W6, st6⟩ := putF X5 hx hZ hown (host := "") (Or.inl (ow30 hw)) Via.refl e5 ((F_v.keep Kq3 nin0).other W5 (Or.inr (slot_ne (Or.inr (ow26 hw)) (Or.inr (ow27 hw)) (by decide) (t := (.array .byte)) (t' := .byte) (by decide) (by decide)))) ((E_a.keep Kq3).wr W5) (Or.inr ⟨(ow26 hw), rfl, hnm⟩) (ow8 hw) (ty := (.array .byte)) (by decide) rfl rfl (g := (mkF m 54 #[.val (.ref a), .val (.ref ca), .val (.int 0), .val (.int 2), .val .null, .val (.ref u3)] [(.ref u3), (.ref a)])) rfl rfl (hb hby d4_54)
    refine oT st6 ?_
    have Fw6 : Fld Z h6 a "java/lang/String" "value" "[B" (.ref u3) := ((F_v.keep Kq3 nin0).other W5 (Or.inr (slot_ne (Or.inr (ow26 hw)) (Or.inr (ow27 hw)) (by decide) (t := (.array .byte)) (t' := .byte) (by decide) (by decide)))).same W6
    have O6 := O5.wr W6 g_a
    have N6 := Fr.snoc X6 N5 g_a
    have K6 := K5.wr W6 (Or.inl (List.mem_of_getElem? (i := 0) rfl))
    show oE _ _ _ _ (T6.setTop (mkF m 57 #[.val (.ref a), .val (.ref ca), .val (.int 0), .val (.int 2), .val .null, .val (.ref u3)] []))
    refine own_leave X6 (v := none) (fun _ => rfl) ?_ (by decide) (by decide) (fun fs hr => X6.returnOut hx Bd.returns (hb hby d4_57) hr)
    show Q_in4_2 Z a ca cs_ rf_ kc ce0 ce1 h0 n0 _ T6.heap _
    rw [e6]
    exact ⟨rfl, N6, O6, K6, Or.inl ⟨u3, ku3, (((E_a.keep Kq3).wr W5).wr W6), (Fw5.other W6 (Or.inr (slot_ne (Or.inr (ow27 hw)) (Or.inr (ow26 hw)) (by decide) (t := .byte) (t' := (.array .byte)) (by decide) (by decide)))), Fw6, ((Vx3.other W5 (Ne.symm ne_a_u3)).other W6 (Ne.symm ne_a_u3)), le0, le1⟩⟩
  · skip
    refine oT st3 ?_
    show oE _ _ _ _ (T3.setTop (mkF m 39 #[.val (.ref a), .val (.ref ca), .val (.int 0), .val (.int 2), .val .null, .unset] [(.ref u3)]))
    have N3 := own_fr l3 N0 N3q
    have ne_ca_u3 : ca ≠ u3 := Nat.ne_of_lt (Nat.lt_of_lt_of_le V_c.lt sq_u3)
    have ne_a_u3 : a ≠ u3 := Nat.ne_of_lt (Nat.lt_of_lt_of_le E_a.lt sq_u3)
    have sz_u3 : h0.size ≤ u3 := Nat.le_trans K0.1 sq_u3
    have KK3 := K0.trans Kq3 all0
    show oE _ _ _ _ (T3.setTop (mkF m 39 #[.val (.ref a), .val (.ref ca), .val (.int 0), .val (.int 2), .val .null, .unset] [(.ref u3)]))
    refine oT (fun _ u => XS.astore X3.here hx rfl (hb hby d4_39) rfl rfl (l' := #[.val (.ref a), .val (.ref ca), .val (.int (0 : Int32)), .val (.int (2 : Int32)), .val .null, .val (.ref u3)]) rfl u) ?_
    refine oT (fun _ u => XS.aloadN X3.here hx rfl (hb hby d4_41) rfl rfl u) ?_
    refine oT (fun _ u => XS.aload X3.here hx rfl (hb hby d4_42) rfl rfl u) ?_
    refine oT (fun _ u => XS.iloadN X3.here hx rfl (hb hby d4_44) rfl u) ?_
    obtain ⟨_, _, ⟨T7, L7, k7, n7⟩, -, X7, ⟨Lc7, hQ7, l7, y7, z7⟩, st7⟩ := Jvm.LawKit.callS X3 hx (y := oM12) hown (mvT hZ (ow54 hw)) (mvT hZ (ow55 hw)) (mvT hZ (ow49 hw)) (mvT hZ (ow56 hw)) (by decide) (backOf (W := 1) (rmCF l Z a0 hw [] u3 (2 : Int32) cs_ rf_ ku3 (4 : Int32) [(.int ((ce0 >>> ((0 : Int32) &&& 31)).toInt8.toInt32)), (.int ((ce0 >>> ((8 : Int32) &&& 31)).toInt8.toInt32)), (.int ((ce1 >>> ((0 : Int32) &&& 31)).toInt8.toInt32)), (.int ((ce1 >>> ((8 : Int32) &&& 31)).toInt8.toInt32))] T3.heap n0 Oq3 Vx3) hZ (ow56 hw) (ow49 hw) (by decide) (by decide)) (g := (mkF m 45 #[.val (.ref a), .val (.ref ca), .val (.int 0), .val (.int 2), .val .null, .val (.ref u3)] [(.int 2), (.ref u3), (.ref a)])) rfl (by rw [hml]; rfl) (argsL := [(.ref u3), (.int (2 : Int32))]) (rest := [(.ref a)]) (lenOf pd_8 rfl) rfl (by show 2 * 0 + _ ≤ _; exact Nat.le_of_eq rfl) (hb hby d4_45) (fun _ _ => ⟨rfl, rfl, (own_le rfl), (own_le rfl)⟩)
    dsimp only [Pt.U, Pt.locs, Pt.cells, Pt.slots] at X7 l7 y7 z7 st7 hQ7
    subst y7 z7
    obtain ⟨hv7, N7q, E7⟩ := hQ7
    rw [show nar .byte (((((2 : Int32) - (4 : Int32)).toUInt32 >>> ((31 : Int32) &&& 31).toUInt32).toInt32).toInt8.toInt32) = (1 : Int32) from by decide] at hv7
    subst hv7
    have N7 := own_fr l7 N3 N7q
    refine oT st7 ?_
    show oE _ _ _ _ (T7.setTop (mkF m 48 #[.val (.ref a), .val (.ref ca), .val (.int 0), .val (.int 2), .val .null, .val (.ref u3)] [(.int 1), (.ref a)]))
    obtain ⟨T8, h8, X8, e8, W8, st8⟩ := putFN X7 hx hZ hown (ow31 hw) Via.refl E7 (F_c.keep Kq3 nin0) (E_a.keep Kq3) (Or.inr ⟨(ow27 hw), rfl, hnm⟩) (ow8 hw) (ty := .byte) (v' := (.int (nar .byte (1 : Int32)))) (by decide) rfl (fits_nar_byte _) (g := (mkF m 48 #[.val (.ref a), .val (.ref ca), .val (.int 0), .val (.int 2), .val .null, .val (.ref u3)] [(.int 1), (.ref a)])) rfl rfl (hb hby d4_48)
    refine oT st8 ?_
    have Fw8 : Fld Z h8 a "java/lang/String" "coder" "B" (.int (1 : Int32)) := (F_c.keep Kq3 nin0).same W8
    have O8 := Oq3.wr W8 g_a
    have N8 := Fr.snoc X8 N7 g_a
    have K8 := KK3.wr W8 (Or.inl (List.mem_of_getElem? (i := 0) rfl))
    show oE _ _ _ _ (T8.setTop (mkF m 51 #[.val (.ref a), .val (.ref ca), .val (.int 0), .val (.int 2), .val .null, .val (.ref u3)] []))
    refine oT (fun _ u => XS.aloadN X8.here hx rfl (hb hby d4_51) rfl rfl u) ?_
    refine oT (fun _ u => XS.aload X8.here hx rfl (hb hby d4_52) rfl rfl u) ?_
    obtain ⟨T9, h9, X9, e9, W9, st9⟩ := putF X8 hx hZ hown (host := "") (Or.inl (ow30 hw)) Via.refl e8 ((F_v.keep Kq3 nin0).other W8 (Or.inr (slot_ne (Or.inr (ow26 hw)) (Or.inr (ow27 hw)) (by decide) (t := (.array .byte)) (t' := .byte) (by decide) (by decide)))) ((E_a.keep Kq3).wr W8) (Or.inr ⟨(ow26 hw), rfl, hnm⟩) (ow8 hw) (ty := (.array .byte)) (by decide) rfl rfl (g := (mkF m 54 #[.val (.ref a), .val (.ref ca), .val (.int 0), .val (.int 2), .val .null, .val (.ref u3)] [(.ref u3), (.ref a)])) rfl rfl (hb hby d4_54)
    refine oT st9 ?_
    have Fw9 : Fld Z h9 a "java/lang/String" "value" "[B" (.ref u3) := ((F_v.keep Kq3 nin0).other W8 (Or.inr (slot_ne (Or.inr (ow26 hw)) (Or.inr (ow27 hw)) (by decide) (t := (.array .byte)) (t' := .byte) (by decide) (by decide)))).same W9
    have O9 := O8.wr W9 g_a
    have N9 := Fr.snoc X9 N8 g_a
    have K9 := K8.wr W9 (Or.inl (List.mem_of_getElem? (i := 0) rfl))
    show oE _ _ _ _ (T9.setTop (mkF m 57 #[.val (.ref a), .val (.ref ca), .val (.int 0), .val (.int 2), .val .null, .val (.ref u3)] []))
    refine own_leave X9 (v := none) (fun _ => rfl) ?_ (by decide) (by decide) (fun fs hr => X9.returnOut hx Bd.returns (hb hby d4_57) hr)
    show Q_in4_2 Z a ca cs_ rf_ kc ce0 ce1 h0 n0 _ T9.heap _
    rw [e9]
    exact ⟨rfl, N9, O9, K9, Or.inr ⟨u3, ku3, (((E_a.keep Kq3).wr W8).wr W9), (Fw8.other W9 (Or.inr (slot_ne (Or.inr (ow27 hw)) (Or.inr (ow26 hw)) (by decide) (t := .byte) (t' := (.array .byte)) (by decide) (by decide)))), Fw9, ((Vx3.other W8 (Ne.symm ne_a_u3)).other W9 (Ne.symm ne_a_u3))⟩⟩
theorem ef_in1_2 (m : MethodId) (a : Addr) (ca : Addr) : entryFrame m #[(.ref a), (.ref ca)] 2 = mkF m 0 #[.val (.ref a), .val (.ref ca)] [] := by first | (simp [entryFrame, mkF, argsToLocals, Value.category]; done) | rfl | (rcases ref_cases hrf with rfl | ⟨q, rfl⟩ <;> rfl)
def Q_in1_2 (Z : State) (a : Addr) (ca : Addr) (cs_ : Int32) (rf_ : Value) (kc : ClassId) (ce0 : Int32) (ce1 : Int32) (h0 : Heap) (n0 : Nat) (v : Option Value) (h : Heap) (L : List Loc) : Prop := v = none ∧ Fr n0 L ∧ Old Z n0 h ∧ Keep h0 h [a] ∧ own_Tx2 Z h a ce0 ce1
theorem in1_2 (l : Launch) (Z : State) (a0 : Array Value) (hw : ∀ d ∈ tables_1, d.before a0 Z = true) (ws : List Jvm.Cond) (a : Addr) (ca : Addr) (cs_ : Int32) (rf_ : Value) (kc : ClassId) (ce0 : Int32) (ce1 : Int32) (h0 : Heap) (n0 : Nat) (O0 : Old Z n0 h0) (g_a : n0 ≤ a) (E_a : Exa Z h0 a "java/lang/String") (F_v : Fld Z h0 a "java/lang/String" "value" "[B" .null) (F_c : Fld Z h0 a "java/lang/String" "coder" "B" (.int (0 : Int32))) (V_c : Arv Z h0 ca kc .char (2 : Int32) [(.int ce0), (.int ce1)] (.int (0 : Int32))) (ne_ca_a : ca ≠ a) (HS : own_HS Z cs_ rf_) (HE0 : own_Ch ce0) (HE1 : own_Ch ce1) :
    MetFree l oM16 (head1 (Jvm.Cond.code oM16 jdk_42_method_3_code 2 none :: ws) ({ frames := 5, cells := 2, slots := 6, locals := 110 } : Room)) (fun aq_ U => aq_ = #[(.ref a), (.ref ca)] ∧ Z.Warmed39 U.vm ∧ U.heap = h0) (fun _ _ _ _ _ => True) (fun _ U o U' => ∃ v L, o = .returned v ∧ Q_in1_2 Z a ca cs_ rf_ kc ce0 ce1 h0 n0 v U'.heap L ∧ FrameEnd U o U' L 2 6) := by
  refine MetFree.of_bodySF (plainFor_of_name pn_3) hisR ?_
  intro p e s m args below meth c s₁ Bd hml0 hP hK
  obtain ⟨rfl, hZ, hh⟩ := hP
  have hx := Bd.exec
  have hby := Bd.bytes
  have hml : c.maxLocals = 2 := hml0
  have hown : s.vm.findClass "java/lang/String" = some m.cls := findClass_of_methodNamed Bd.named
  have hnm := (name_of_methodNamed Bd.named Bd.method).1
  have X0 : Stand p l e ({ frames := 5, cells := 2, slots := 6, locals := 110 } : Room) s m #[(.ref a), (.ref ca)] below meth c s₁ [] 0 0 := Stand.of_body Bd
  have e0 : s₁.heap = h0 := by rw [← hh, Bd.state]; rfl
  have N0 := Fr.nil n0
  show oE p.tables e below (own_P s (Q_in1_2 Z a ca cs_ rf_ kc ce0 ce1 h0 n0) 2 6) _
  refine own_cast (ef_in1_2 m a ca) ?_
  have K0 := Keep.refl h0 [a]
  show oE _ _ _ _ (s₁.setTop (mkF m 0 #[.val (.ref a), .val (.ref ca)] []))
  refine oT (fun _ u => XS.aloadN X0.here hx rfl (hb hby d3_0) rfl rfl u) ?_
  refine oT (fun _ u => XS.aloadN X0.here hx rfl (hb hby d3_1) rfl rfl u) ?_
  refine oT (fun _ u => XS.iconst X0.here hx rfl (hb hby d3_2) u) ?_
  refine oT (fun _ u => XS.aloadN X0.here hx rfl (hb hby d3_3) rfl rfl u) ?_
  obtain ⟨cl1, Ar1, q1, S1, M1, -, -⟩ := id V_c
  refine oT (fun _ u => X0.arraylength hx (by rw [e0]; exact Ar1.1) (State.isArrayOf_alike hZ.alike Ar1.2.1) (g := (mkF m 4 #[.val (.ref a), .val (.ref ca)] [(.ref ca), (.int 0), (.ref ca), (.ref a)])) rfl rfl (hb hby d3_4) _ u) ?_
  rw [len_of S1 M1]
  show oE _ _ _ _ (s₁.setTop (mkF m 5 #[.val (.ref a), .val (.ref ca)] [(.int 2), (.int 0), (.ref ca), (.ref a)]))
  refine oT (fun _ u => XS.aconstNull X0.here hx rfl (hb hby d3_5) u) ?_
  show oE _ _ _ _ (s₁.setTop (mkF m 6 #[.val (.ref a), .val (.ref ca)] [.null, (.int 2), (.int 0), (.ref ca), (.ref a)]))
  obtain ⟨_, _, ⟨T2, L2, k2, n2⟩, -, X2, ⟨Lc2, hQ2, l2, y2, z2⟩, st2⟩ := X0.specialBack hx (y := oM15) rfl hown (mvT hZ (ow17 hw)) (mvT hZ (ow18 hw)) (mvT hZ (ow20 hw)) (by decide) (backOf (W := 0) (in4_2 l Z a0 hw [] a ca cs_ rf_ kc ce0 ce1 h0 n0 O0 g_a E_a F_v F_c V_c ne_ca_a HS HE0 HE1) hZ (ow20 hw) (ow9 hw) (by decide) (by decide)) (g := (mkF m 6 #[.val (.ref a), .val (.ref ca)] [.null, (.int 2), (.int 0), (.ref ca), (.ref a)])) rfl (by rw [hml]; rfl) (Steps.refl _) (a := a) (argsL := [(.ref ca), (.int (0 : Int32)), (.int (2 : Int32)), .null]) (rest := []) (lenOf pd_9 rfl) rfl (by show 2 * 0 + _ ≤ _; exact Nat.le_of_eq rfl) (hb hby d3_6) (fun _ _ => ⟨rfl, e0, (own_le rfl), (own_le rfl)⟩)
  dsimp only [Pt.U, Pt.locs, Pt.cells, Pt.slots] at X2 l2 y2 z2 st2 hQ2
  subst y2 z2
  obtain ⟨rfl, N2q, Oq2, Kq2, HT2⟩ := hQ2
  have N2 := own_fr l2 N0 N2q
  have KK2 := K0.trans Kq2 (allS (Or.inl (List.mem_of_getElem? (i := 0) rfl)) all0)
  refine own_tr st2 ?_
  show oE _ _ _ _ (T2.setTop (mkF m 9 #[.val (.ref a), .val (.ref ca)] []))
  refine own_leave X2 (v := none) (fun _ => rfl) ?_ (by decide) (by decide) (fun fs hr => X2.returnOut hx Bd.returns (hb hby d3_9) hr)
  show Q_in1_2 Z a ca cs_ rf_ kc ce0 ce1 h0 n0 _ T2.heap _
  exact ⟨rfl, N2, Oq2, KK2, HT2⟩
theorem ef_cp2_3 (m : MethodId) (ca : Addr) (da : Addr) (kc : ClassId) (kd : ClassId) (ce0 : Int32) (ce1 : Int32) (ce2 : Int32) : entryFrame m #[(.ref ca), (.int (0 : Int32)), (.ref da), (.int (0 : Int32)), (.int (3 : Int32))] 7 = mkF m 0 #[.val (.ref ca), .val (.int (0 : Int32)), .val (.ref da), .val (.int (0 : Int32)), .val (.int (3 : Int32)), .unset, .unset] [] := by first | (simp [entryFrame, mkF, argsToLocals, Value.category]; done) | rfl | (rcases ref_cases hrf with rfl | ⟨q, rfl⟩ <;> rfl)
def Q_cp2_3 (Z : State) (ca : Addr) (da : Addr) (kc : ClassId) (kd : ClassId) (ce0 : Int32) (ce1 : Int32) (ce2 : Int32) (h0 : Heap) (n0 : Nat) (v : Option Value) (h : Heap) (L : List Loc) : Prop := (v = some (.int (3 : Int32)) ∧ Fr n0 L ∧ Old Z n0 h ∧ Keep h0 h [da] ∧ Arv Z h da kd .byte (3 : Int32) [(.int (ce0.toInt8.toInt32)), (.int (ce1.toInt8.toInt32)), (.int (ce2.toInt8.toInt32))] (.int (0 : Int32)) ∧ ¬ (255 : Int32) < ce0 ∧ ¬ (255 : Int32) < ce1 ∧ ¬ (255 : Int32) < ce2) ∨ (v = some (.int (0 : Int32)) ∧ Fr n0 L ∧ Old Z n0 h ∧ Keep h0 h [da] ∧ (255 : Int32) < ce0) ∨ (v = some (.int (1 : Int32)) ∧ Fr n0 L ∧ Old Z n0 h ∧ Keep h0 h [da] ∧ (255 : Int32) < ce1) ∨ (v = some (.int (2 : Int32)) ∧ Fr n0 L ∧ Old Z n0 h ∧ Keep h0 h [da] ∧ (255 : Int32) < ce2)
theorem cp2_3 (l : Launch) (Z : State) (a0 : Array Value) (hw : ∀ d ∈ tables_1, d.before a0 Z = true) (ws : List Jvm.Cond) (ca : Addr) (da : Addr) (kc : ClassId) (kd : ClassId) (ce0 : Int32) (ce1 : Int32) (ce2 : Int32) (h0 : Heap) (n0 : Nat) (O0 : Old Z n0 h0) (V_c : Arv Z h0 ca kc .char (3 : Int32) [(.int ce0), (.int ce1), (.int ce2)] (.int (0 : Int32))) (V_d : Arv Z h0 da kd .byte (3 : Int32) [(.int (0 : Int32)), (.int (0 : Int32)), (.int (0 : Int32))] (.int (0 : Int32))) (g_da : n0 ≤ da) (ne_ca_da : ca ≠ da) :
    MetFree l oM13 (head1 (Jvm.Cond.code oM13 jdk_52_method_21_code 7 (some .int) :: ws) ({ frames := 0, cells := 0, slots := 0, locals := 0 } : Room)) (fun aq_ U => aq_ = #[(.ref ca), (.int (0 : Int32)), (.ref da), (.int (0 : Int32)), (.int (3 : Int32))] ∧ Z.Warmed39 U.vm ∧ U.heap = h0) (fun _ _ _ _ _ => True) (fun _ U o U' => ∃ v L, o = .returned v ∧ Q_cp2_3 Z ca da kc kd ce0 ce1 ce2 h0 n0 v U'.heap L ∧ FrameEnd U o U' L 0 0) := by
  refine MetFree.of_bodySF (plainFor_of_name pn_10) hisR ?_
  intro p e s m args below meth c s₁ Bd hml0 hP hK
  obtain ⟨rfl, hZ, hh⟩ := hP
  have hx := Bd.exec
  have hby := Bd.bytes
  have hml : c.maxLocals = 7 := hml0
  have hown : s.vm.findClass "java/lang/StringUTF16" = some m.cls := findClass_of_methodNamed Bd.named
  have hnm := (name_of_methodNamed Bd.named Bd.method).1
  have X0 : Stand p l e ({ frames := 0, cells := 0, slots := 0, locals := 0 } : Room) s m #[(.ref ca), (.int (0 : Int32)), (.ref da), (.int (0 : Int32)), (.int (3 : Int32))] below meth c s₁ [] 0 0 := Stand.of_body Bd
  have e0 : s₁.heap = h0 := by rw [← hh, Bd.state]; rfl
  have N0 := Fr.nil n0
  show oE p.tables e below (own_P s (Q_cp2_3 Z ca da kc kd ce0 ce1 ce2 h0 n0) 0 0) _
  refine own_cast (ef_cp2_3 m ca da kc kd ce0 ce1 ce2) ?_
  have K0 := Keep.refl h0 [da]
  show oE _ _ _ _ (s₁.setTop (mkF m 0 #[.val (.ref ca), .val (.int 0), .val (.ref da), .val (.int 0), .val (.int 3), .unset, .unset] []))
  refine oT (fun _ u => XS.iconst X0.here hx rfl (hb hby d10_0) u) ?_
  refine oT (fun _ u => XS.istore X0.here hx rfl (hb hby d10_1) rfl (l' := #[.val (.ref ca), .val (.int (0 : Int32)), .val (.ref da), .val (.int (0 : Int32)), .val (.int (3 : Int32)), .val (.int (0 : Int32)), .unset]) rfl u) ?_
  refine oT (fun _ u => XS.iload X0.here hx rfl (hb hby d10_3) rfl u) ?_
  refine oT (fun _ u => XS.iload X0.here hx rfl (hb hby d10_5) rfl u) ?_
  refine oT (fun _ u => XS.icmpNo X0.here hx rfl (hb hby d10_7) rfl (tlt (by decide)).2.1 u) ?_
  show oE _ _ _ _ (s₁.setTop (mkF m 10 #[.val (.ref ca), .val (.int 0), .val (.ref da), .val (.int 0), .val (.int 3), .val (.int 0), .unset] []))
  refine oT (fun _ u => XS.aloadN X0.here hx rfl (hb hby d10_10) rfl rfl u) ?_
  refine oT (fun _ u => XS.iloadN X0.here hx rfl (hb hby d10_11) rfl u) ?_
  obtain ⟨cl1, Ar1, q1, S1, M1, H1, G1⟩ := id V_c
  have hin1 : ¬ ((0 : Int32) < 0 ∨ cl1.slots.size ≤ ((0 : Int32)).toNatClampNeg) := inb_of S1 ⟨by decide, by decide⟩
  have hat1 : cl1.slots[((0 : Int32)).toNatClampNeg]? = some (.int ce0) := Has.at H1 hin1 rfl
  refine oT (fun _ u => X0.caload hx (j := (0 : Int32)) (v := (.int ce0)) (by rw [e0]; exact Ar1.1) (State.isArrayOf_alike hZ.alike Ar1.2.1) Ar1.2.2 hin1 hat1 (g := (mkF m 12 #[.val (.ref ca), .val (.int 0), .val (.ref da), .val (.int 0), .val (.int 3), .val (.int 0), .unset] [(.int 0), (.ref ca)])) rfl rfl (hb hby d10_12) _ u) ?_
  show oE _ _ _ _ (s₁.setTop (mkF m 13 #[.val (.ref ca), .val (.int 0), .val (.ref da), .val (.int 0), .val (.int 3), .val (.int 0), .unset] [(.int ce0)]))
  refine oT (fun _ u => XS.istore X0.here hx rfl (hb hby d10_13) rfl (l' := #[.val (.ref ca), .val (.int (0 : Int32)), .val (.ref da), .val (.int (0 : Int32)), .val (.int (3 : Int32)), .val (.int (0 : Int32)), .val (.int ce0)]) rfl u) ?_
  refine oT (fun _ u => XS.iload X0.here hx rfl (hb hby d10_15) rfl u) ?_
  refine oT (fun _ u => XS.sipush X0.here hx rfl (hb hby d10_17) u) ?_
  by_cases hc20_2 : (255 : Int32) < ce0
  · -- pc 20: (255 : Int32) < ce0
    refine oT (fun _ u => XS.icmpNo X0.here hx rfl (hb hby d10_20) rfl (tlt hc20_2).2.2.2 u) ?_
    show oE _ _ _ _ (s₁.setTop (mkF m 23 #[.val (.ref ca), .val (.int 0), .val (.ref da), .val (.int 0), .val (.int 3), .val (.int 0), .val (.int ce0)] []))
    refine oT (fun _ u => XS.iload X0.here hx rfl (hb hby d10_23) rfl u) ?_
    refine own_leave X0 (v := some (.int (0 : Int32))) (fun h => by rw [Bd.returns] at h; cases h) ?_ (by decide) (by decide) (fun fs hr => retOut X0 hx Bd.returns rfl (Or.inl ⟨rfl, Or.inl rfl, _, rfl⟩) (hb hby d10_25) hr)
    show Q_cp2_3 Z ca da kc kd ce0 ce1 ce2 h0 n0 _ s₁.heap _
    rw [e0]
    exact Or.inr (Or.inl ⟨rfl, N0, O0, K0, hc20_2⟩)
  · -- pc 20: not (255 : Int32) < ce0
    refine oT (fun _ u => XS.icmpYes X0.here hx rfl (pc0 := 20) (pc' := 26) rfl (hb hby d10_20) rfl (flt hc20_2).2.2.2 (by decide) (by decide) u) ?_
    show oE _ _ _ _ (s₁.setTop (mkF m 26 #[.val (.ref ca), .val (.int 0), .val (.ref da), .val (.int 0), .val (.int 3), .val (.int 0), .val (.int ce0)] []))
    refine oT (fun _ u => XS.aloadN X0.here hx rfl (hb hby d10_26) rfl rfl u) ?_
    refine oT (fun _ u => XS.iloadN X0.here hx rfl (hb hby d10_27) rfl u) ?_
    refine oT (fun _ u => XS.iload X0.here hx rfl (hb hby d10_28) rfl u) ?_
    refine oT (fun _ u => XS.i2b X0.here hx rfl (hb hby d10_30) rfl u) ?_
    obtain ⟨cl3, Ar3, q3, S3, M3, H3, G3⟩ := id V_d
    have hin3 : ¬ ((0 : Int32) < 0 ∨ cl3.slots.size ≤ ((0 : Int32)).toNatClampNeg) := inb_of S3 ⟨by decide, by decide⟩
    obtain ⟨T3, h3, X3, e3, W3, st3⟩ := stB X0 hx hZ e0 Ar3 (j := (0 : Int32)) hin3 (g := (mkF m 31 #[.val (.ref ca), .val (.int 0), .val (.ref da), .val (.int 0), .val (.int 3), .val (.int 0), .val (.int ce0)] [(.int (ce0.toInt8.toInt32)), (.int 0), (.ref da)])) rfl rfl (hb hby d10_31)
    have Vs3 : Arv Z h3 da kd .byte (3 : Int32) [(.int (nar .byte (ce0.toInt8.toInt32))), (.int (0 : Int32)), (.int (0 : Int32))] (.int (0 : Int32)) := Arv.set Ar3 q3 S3 M3 H3 G3 (fits_nar_byte _) W3 0 rfl (own_lt rfl)
    rw [show (nar .byte (ce0.toInt8.toInt32)) = (ce0.toInt8.toInt32) from (own_nb _)] at Vs3
    refine oT st3 ?_
    have O3 := O0.wr W3 g_da
    have N3 := Fr.snoc X3 N0 g_da
    have K3 := K0.wr W3 (Or.inl (List.mem_of_getElem? (i := 0) rfl))
    show oE _ _ _ _ (T3.setTop (mkF m 32 #[.val (.ref ca), .val (.int 0), .val (.ref da), .val (.int 0), .val (.int 3), .val (.int 0), .val (.int ce0)] []))
    refine oT (fun _ u => XS.iinc X3.here hx rfl (hb hby d10_32) rfl (l' := #[.val (.ref ca), .val (.int (1 : Int32)), .val (.ref da), .val (.int (0 : Int32)), .val (.int (3 : Int32)), .val (.int (0 : Int32)), .val (.int ce0)]) rfl u) ?_
    show oE _ _ _ _ (T3.setTop (mkF m 35 #[.val (.ref ca), .val (.int 1), .val (.ref da), .val (.int 0), .val (.int 3), .val (.int 0), .val (.int ce0)] []))
    refine oT (fun _ u => XS.iinc X3.here hx rfl (hb hby d10_35) rfl (l' := #[.val (.ref ca), .val (.int (1 : Int32)), .val (.ref da), .val (.int (1 : Int32)), .val (.int (3 : Int32)), .val (.int (0 : Int32)), .val (.int ce0)]) rfl u) ?_
    show oE _ _ _ _ (T3.setTop (mkF m 38 #[.val (.ref ca), .val (.int 1), .val (.ref da), .val (.int 1), .val (.int 3), .val (.int 0), .val (.int ce0)] []))
    refine oT (fun _ u => XS.iinc X3.here hx rfl (hb hby d10_38) rfl (l' := #[.val (.ref ca), .val (.int (1 : Int32)), .val (.ref da), .val (.int (1 : Int32)), .val (.int (3 : Int32)), .val (.int (1 : Int32)), .val (.int ce0)]) rfl u) ?_
    show oE _ _ _ _ (T3.setTop (mkF m 41 #[.val (.ref ca), .val (.int 1), .val (.ref da), .val (.int 1), .val (.int 3), .val (.int 1), .val (.int ce0)] []))
    refine oT (fun _ u => XS.goto X3.here hx rfl (pc0 := 41) (pc' := 3) rfl (hb hby d10_41) (by decide) (by decide) u) ?_
    refine oT (fun _ u => XS.iload X3.here hx rfl (hb hby d10_3) rfl u) ?_
    refine oT (fun _ u => XS.iload X3.here hx rfl (hb hby d10_5) rfl u) ?_
    refine oT (fun _ u => XS.icmpNo X3.here hx rfl (hb hby d10_7) rfl (tlt (by decide)).2.1 u) ?_
    show oE _ _ _ _ (T3.setTop (mkF m 10 #[.val (.ref ca), .val (.int 1), .val (.ref da), .val (.int 1), .val (.int 3), .val (.int 1), .val (.int ce0)] []))
    refine oT (fun _ u => XS.aloadN X3.here hx rfl (hb hby d10_10) rfl rfl u) ?_
    refine oT (fun _ u => XS.iloadN X3.here hx rfl (hb hby d10_11) rfl u) ?_
    obtain ⟨cl4, Ar4, q4, S4, M4, H4, G4⟩ := id (V_c.other W3 ne_ca_da)
    have hin4 : ¬ ((1 : Int32) < 0 ∨ cl4.slots.size ≤ ((1 : Int32)).toNatClampNeg) := inb_of S4 ⟨by decide, by decide⟩
    have hat4 : cl4.slots[((1 : Int32)).toNatClampNeg]? = some (.int ce1) := Has.at H4 hin4 rfl
    refine oT (fun _ u => X3.caload hx (j := (1 : Int32)) (v := (.int ce1)) (by rw [e3]; exact Ar4.1) (State.isArrayOf_alike hZ.alike Ar4.2.1) Ar4.2.2 hin4 hat4 (g := (mkF m 12 #[.val (.ref ca), .val (.int 1), .val (.ref da), .val (.int 1), .val (.int 3), .val (.int 1), .val (.int ce0)] [(.int 1), (.ref ca)])) rfl rfl (hb hby d10_12) _ u) ?_
    show oE _ _ _ _ (T3.setTop (mkF m 13 #[.val (.ref ca), .val (.int 1), .val (.ref da), .val (.int 1), .val (.int 3), .val (.int 1), .val (.int ce0)] [(.int ce1)]))
    refine oT (fun _ u => XS.istore X3.here hx rfl (hb hby d10_13) rfl (l' := #[.val (.ref ca), .val (.int (1 : Int32)), .val (.ref da), .val (.int (1 : Int32)), .val (.int (3 : Int32)), .val (.int (1 : Int32)), .val (.int ce1)]) rfl u) ?_
    refine oT (fun _ u => XS.iload X3.here hx rfl (hb hby d10_15) rfl u) ?_
    refine oT (fun _ u => XS.sipush X3.here hx rfl (hb hby d10_17) u) ?_
    by_cases hc20_5 : (255 : Int32) < ce1
    · -- pc 20: (255 : Int32) < ce1
      refine oT (fun _ u => XS.icmpNo X3.here hx rfl (hb hby d10_20) rfl (tlt hc20_5).2.2.2 u) ?_
      show oE _ _ _ _ (T3.setTop (mkF m 23 #[.val (.ref ca), .val (.int 1), .val (.ref da), .val (.int 1), .val (.int 3), .val (.int 1), .val (.int ce1)] []))
      refine oT (fun _ u => XS.iload X3.here hx rfl (hb hby d10_23) rfl u) ?_
      refine own_leave X3 (v := some (.int (1 : Int32))) (fun h => by rw [Bd.returns] at h; cases h) ?_ (by decide) (by decide) (fun fs hr => retOut X3 hx Bd.returns rfl (Or.inl ⟨rfl, Or.inl rfl, _, rfl⟩) (hb hby d10_25) hr)
      show Q_cp2_3 Z ca da kc kd ce0 ce1 ce2 h0 n0 _ T3.heap _
      rw [e3]
      exact Or.inr (Or.inr (Or.inl ⟨rfl, N3, O3, K3, hc20_5⟩))
    · -- pc 20: not (255 : Int32) < ce1
      refine oT (fun _ u => XS.icmpYes X3.here hx rfl (pc0 := 20) (pc' := 26) rfl (hb hby d10_20) rfl (flt hc20_5).2.2.2 (by decide) (by decide) u) ?_
      show oE _ _ _ _ (T3.setTop (mkF m 26 #[.val (.ref ca), .val (.int 1), .val (.ref da), .val (.int 1), .val (.int 3), .val (.int 1), .val (.int ce1)] []))
      refine oT (fun _ u => XS.aloadN X3.here hx rfl (hb hby d10_26) rfl rfl u) ?_
      refine oT (fun _ u => XS.iloadN X3.here hx rfl (hb hby d10_27) rfl u) ?_
      refine oT (fun _ u => XS.iload X3.here hx rfl (hb hby d10_28) rfl u) ?_
      refine oT (fun _ u => XS.i2b X3.here hx rfl (hb hby d10_30) rfl u) ?_
      obtain ⟨cl6, Ar6, q6, S6, M6, H6, G6⟩ := id Vs3
      have hin6 : ¬ ((1 : Int32) < 0 ∨ cl6.slots.size ≤ ((1 : Int32)).toNatClampNeg) := inb_of S6 ⟨by decide, by decide⟩
      obtain ⟨T6, h6, X6, e6, W6, st6⟩ := stB X3 hx hZ e3 Ar6 (j := (1 : Int32)) hin6 (g := (mkF m 31 #[.val (.ref ca), .val (.int 1), .val (.ref da), .val (.int 1), .val (.int 3), .val (.int 1), .val (.int ce1)] [(.int (ce1.toInt8.toInt32)), (.int 1), (.ref da)])) rfl rfl (hb hby d10_31)
      have Vs6 : Arv Z h6 da kd .byte (3 : Int32) [(.int (ce0.toInt8.toInt32)), (.int (nar .byte (ce1.toInt8.toInt32))), (.int (0 : Int32))] (.int (0 : Int32)) := Arv.set Ar6 q6 S6 M6 H6 G6 (fits_nar_byte _) W6 1 rfl (own_lt rfl)
      rw [show (nar .byte (ce1.toInt8.toInt32)) = (ce1.toInt8.toInt32) from (own_nb _)] at Vs6
      refine oT st6 ?_
      have O6 := O3.wr W6 g_da
      have N6 := Fr.snoc X6 N3 g_da
      have K6 := K3.wr W6 (Or.inl (List.mem_of_getElem? (i := 0) rfl))
      show oE _ _ _ _ (T6.setTop (mkF m 32 #[.val (.ref ca), .val (.int 1), .val (.ref da), .val (.int 1), .val (.int 3), .val (.int 1), .val (.int ce1)] []))
      refine oT (fun _ u => XS.iinc X6.here hx rfl (hb hby d10_32) rfl (l' := #[.val (.ref ca), .val (.int (2 : Int32)), .val (.ref da), .val (.int (1 : Int32)), .val (.int (3 : Int32)), .val (.int (1 : Int32)), .val (.int ce1)]) rfl u) ?_
      show oE _ _ _ _ (T6.setTop (mkF m 35 #[.val (.ref ca), .val (.int 2), .val (.ref da), .val (.int 1), .val (.int 3), .val (.int 1), .val (.int ce1)] []))
      refine oT (fun _ u => XS.iinc X6.here hx rfl (hb hby d10_35) rfl (l' := #[.val (.ref ca), .val (.int (2 : Int32)), .val (.ref da), .val (.int (2 : Int32)), .val (.int (3 : Int32)), .val (.int (1 : Int32)), .val (.int ce1)]) rfl u) ?_
      show oE _ _ _ _ (T6.setTop (mkF m 38 #[.val (.ref ca), .val (.int 2), .val (.ref da), .val (.int 2), .val (.int 3), .val (.int 1), .val (.int ce1)] []))
      refine oT (fun _ u => XS.iinc X6.here hx rfl (hb hby d10_38) rfl (l' := #[.val (.ref ca), .val (.int (2 : Int32)), .val (.ref da), .val (.int (2 : Int32)), .val (.int (3 : Int32)), .val (.int (2 : Int32)), .val (.int ce1)]) rfl u) ?_
      show oE _ _ _ _ (T6.setTop (mkF m 41 #[.val (.ref ca), .val (.int 2), .val (.ref da), .val (.int 2), .val (.int 3), .val (.int 2), .val (.int ce1)] []))
      refine oT (fun _ u => XS.goto X6.here hx rfl (pc0 := 41) (pc' := 3) rfl (hb hby d10_41) (by decide) (by decide) u) ?_
      refine oT (fun _ u => XS.iload X6.here hx rfl (hb hby d10_3) rfl u) ?_
      refine oT (fun _ u => XS.iload X6.here hx rfl (hb hby d10_5) rfl u) ?_
      refine oT (fun _ u => XS.icmpNo X6.here hx rfl (hb hby d10_7) rfl (tlt (by decide)).2.1 u) ?_
      show oE _ _ _ _ (T6.setTop (mkF m 10 #[.val (.ref ca), .val (.int 2), .val (.ref da), .val (.int 2), .val (.int 3), .val (.int 2), .val (.int ce1)] []))
      refine oT (fun _ u => XS.aloadN X6.here hx rfl (hb hby d10_10) rfl rfl u) ?_
      refine oT (fun _ u => XS.iloadN X6.here hx rfl (hb hby d10_11) rfl u) ?_
      obtain ⟨cl7, Ar7, q7, S7, M7, H7, G7⟩ := id ((V_c.other W3 ne_ca_da).other W6 ne_ca_da)
      have hin7 : ¬ ((2 : Int32) < 0 ∨ cl7.slots.size ≤ ((2 : Int32)).toNatClampNeg) := inb_of S7 ⟨by decide, by decide⟩
      have hat7 : cl7.slots[((2 : Int32)).toNatClampNeg]? = some (.int ce2) := Has.at H7 hin7 rfl
      refine oT (fun _ u => X6.caload hx (j := (2 : Int32)) (v := (.int ce2)) (by rw [e6]; exact Ar7.1) (State.isArrayOf_alike hZ.alike Ar7.2.1) Ar7.2.2 hin7 hat7 (g := (mkF m 12 #[.val (.ref ca), .val (.int 2), .val (.ref da), .val (.int 2), .val (.int 3), .val (.int 2), .val (.int ce1)] [(.int 2), (.ref ca)])) rfl rfl (hb hby d10_12) _ u) ?_
      show oE _ _ _ _ (T6.setTop (mkF m 13 #[.val (.ref ca), .val (.int 2), .val (.ref da), .val (.int 2), .val (.int 3), .val (.int 2), .val (.int ce1)] [(.int ce2)]))
      refine oT (fun _ u => XS.istore X6.here hx rfl (hb hby d10_13) rfl (l' := #[.val (.ref ca), .val (.int (2 : Int32)), .val (.ref da), .val (.int (2 : Int32)), .val (.int (3 : Int32)), .val (.int (2 : Int32)), .val (.int ce2)]) rfl u) ?_
      refine oT (fun _ u => XS.iload X6.here hx rfl (hb hby d10_15) rfl u) ?_
      refine oT (fun _ u => XS.sipush X6.here hx rfl (hb hby d10_17) u) ?_
      by_cases hc20_8 : (255 : Int32) < ce2
      · -- pc 20: (255 : Int32) < ce2
        refine oT (fun _ u => XS.icmpNo X6.here hx rfl (hb hby d10_20) rfl (tlt hc20_8).2.2.2 u) ?_
        show oE _ _ _ _ (T6.setTop (mkF m 23 #[.val (.ref ca), .val (.int 2), .val (.ref da), .val (.int 2), .val (.int 3), .val (.int 2), .val (.int ce2)] []))
        refine oT (fun _ u => XS.iload X6.here hx rfl (hb hby d10_23) rfl u) ?_
        refine own_leave X6 (v := some (.int (2 : Int32))) (fun h => by rw [Bd.returns] at h; cases h) ?_ (by decide) (by decide) (fun fs hr => retOut X6 hx Bd.returns rfl (Or.inl ⟨rfl, Or.inl rfl, _, rfl⟩) (hb hby d10_25) hr)
        show Q_cp2_3 Z ca da kc kd ce0 ce1 ce2 h0 n0 _ T6.heap _
        rw [e6]
        exact Or.inr (Or.inr (Or.inr (⟨rfl, N6, O6, K6, hc20_8⟩)))
      · -- pc 20: not (255 : Int32) < ce2
        refine oT (fun _ u => XS.icmpYes X6.here hx rfl (pc0 := 20) (pc' := 26) rfl (hb hby d10_20) rfl (flt hc20_8).2.2.2 (by decide) (by decide) u) ?_
        show oE _ _ _ _ (T6.setTop (mkF m 26 #[.val (.ref ca), .val (.int 2), .val (.ref da), .val (.int 2), .val (.int 3), .val (.int 2), .val (.int ce2)] []))
        refine oT (fun _ u => XS.aloadN X6.here hx rfl (hb hby d10_26) rfl rfl u) ?_
        refine oT (fun _ u => XS.iloadN X6.here hx rfl (hb hby d10_27) rfl u) ?_
        refine oT (fun _ u => XS.iload X6.here hx rfl (hb hby d10_28) rfl u) ?_
        refine oT (fun _ u => XS.i2b X6.here hx rfl (hb hby d10_30) rfl u) ?_
        obtain ⟨cl9, Ar9, q9, S9, M9, H9, G9⟩ := id Vs6
        have hin9 : ¬ ((2 : Int32) < 0 ∨ cl9.slots.size ≤ ((2 : Int32)).toNatClampNeg) := inb_of S9 ⟨by decide, by decide⟩
        obtain ⟨T9, h9, X9, e9, W9, st9⟩ := stB X6 hx hZ e6 Ar9 (j := (2 : Int32)) hin9 (g := (mkF m 31 #[.val (.ref ca), .val (.int 2), .val (.ref da), .val (.int 2), .val (.int 3), .val (.int 2), .val (.int ce2)] [(.int (ce2.toInt8.toInt32)), (.int 2), (.ref da)])) rfl rfl (hb hby d10_31)
        have Vs9 : Arv Z h9 da kd .byte (3 : Int32) [(.int (ce0.toInt8.toInt32)), (.int (ce1.toInt8.toInt32)), (.int (nar .byte (ce2.toInt8.toInt32)))] (.int (0 : Int32)) := Arv.set Ar9 q9 S9 M9 H9 G9 (fits_nar_byte _) W9 2 rfl (own_lt rfl)
        rw [show (nar .byte (ce2.toInt8.toInt32)) = (ce2.toInt8.toInt32) from (own_nb _)] at Vs9
        refine oT st9 ?_
        have O9 := O6.wr W9 g_da
        have N9 := Fr.snoc X9 N6 g_da
        have K9 := K6.wr W9 (Or.inl (List.mem_of_getElem? (i := 0) rfl))
        show oE _ _ _ _ (T9.setTop (mkF m 32 #[.val (.ref ca), .val (.int 2), .val (.ref da), .val (.int 2), .val (.int 3), .val (.int 2), .val (.int ce2)] []))
        refine oT (fun _ u => XS.iinc X9.here hx rfl (hb hby d10_32) rfl (l' := #[.val (.ref ca), .val (.int (3 : Int32)), .val (.ref da), .val (.int (2 : Int32)), .val (.int (3 : Int32)), .val (.int (2 : Int32)), .val (.int ce2)]) rfl u) ?_
        show oE _ _ _ _ (T9.setTop (mkF m 35 #[.val (.ref ca), .val (.int 3), .val (.ref da), .val (.int 2), .val (.int 3), .val (.int 2), .val (.int ce2)] []))
        refine oT (fun _ u => XS.iinc X9.here hx rfl (hb hby d10_35) rfl (l' := #[.val (.ref ca), .val (.int (3 : Int32)), .val (.ref da), .val (.int (3 : Int32)), .val (.int (3 : Int32)), .val (.int (2 : Int32)), .val (.int ce2)]) rfl u) ?_
        show oE _ _ _ _ (T9.setTop (mkF m 38 #[.val (.ref ca), .val (.int 3), .val (.ref da), .val (.int 3), .val (.int 3), .val (.int 2), .val (.int ce2)] []))
        refine oT (fun _ u => XS.iinc X9.here hx rfl (hb hby d10_38) rfl (l' := #[.val (.ref ca), .val (.int (3 : Int32)), .val (.ref da), .val (.int (3 : Int32)), .val (.int (3 : Int32)), .val (.int (3 : Int32)), .val (.int ce2)]) rfl u) ?_
        show oE _ _ _ _ (T9.setTop (mkF m 41 #[.val (.ref ca), .val (.int 3), .val (.ref da), .val (.int 3), .val (.int 3), .val (.int 3), .val (.int ce2)] []))
        refine oT (fun _ u => XS.goto X9.here hx rfl (pc0 := 41) (pc' := 3) rfl (hb hby d10_41) (by decide) (by decide) u) ?_
        refine oT (fun _ u => XS.iload X9.here hx rfl (hb hby d10_3) rfl u) ?_
        refine oT (fun _ u => XS.iload X9.here hx rfl (hb hby d10_5) rfl u) ?_
        refine oT (fun _ u => XS.icmpYes X9.here hx rfl (pc0 := 7) (pc' := 44) rfl (hb hby d10_7) rfl (flt (by decide)).2.1 (by decide) (by decide) u) ?_
        show oE _ _ _ _ (T9.setTop (mkF m 44 #[.val (.ref ca), .val (.int 3), .val (.ref da), .val (.int 3), .val (.int 3), .val (.int 3), .val (.int ce2)] []))
        refine oT (fun _ u => XS.iload X9.here hx rfl (hb hby d10_44) rfl u) ?_
        refine own_leave X9 (v := some (.int (3 : Int32))) (fun h => by rw [Bd.returns] at h; cases h) ?_ (by decide) (by decide) (fun fs hr => retOut X9 hx Bd.returns rfl (Or.inl ⟨rfl, Or.inl rfl, _, rfl⟩) (hb hby d10_46) hr)
        show Q_cp2_3 Z ca da kc kd ce0 ce1 ce2 h0 n0 _ T9.heap _
        rw [e9]
        exact Or.inl ⟨rfl, N9, O9, K9, Vs9, hc20_2, hc20_5, hc20_8⟩
theorem ef_cp1_3 (m : MethodId) (ca : Addr) (cs_ : Int32) (rf_ : Value) (kc : ClassId) (ce0 : Int32) (ce1 : Int32) (ce2 : Int32) : entryFrame m #[(.ref ca), (.int (0 : Int32)), (.int (3 : Int32))] 6 = mkF m 0 #[.val (.ref ca), .val (.int (0 : Int32)), .val (.int (3 : Int32)), .unset, .unset, .unset] [] := by first | (simp [entryFrame, mkF, argsToLocals, Value.category]; done) | rfl | (rcases ref_cases hrf with rfl | ⟨q, rfl⟩ <;> rfl)
def Q_cp1_3 (Z : State) (ca : Addr) (cs_ : Int32) (rf_ : Value) (kc : ClassId) (ce0 : Int32) (ce1 : Int32) (ce2 : Int32) (h0 : Heap) (n0 : Nat) (v : Option Value) (h : Heap) (L : List Loc) : Prop := (∃ (b : Addr) (kb : ClassId), v = some (.ref b) ∧ n0 ≤ b ∧ h0.size ≤ b ∧ Fr n0 L ∧ Old Z n0 h ∧ Keep h0 h [] ∧ Arv Z h b kb .byte (3 : Int32) [(.int (ce0.toInt8.toInt32)), (.int (ce1.toInt8.toInt32)), (.int (ce2.toInt8.toInt32))] (.int (0 : Int32)) ∧ ¬ (255 : Int32) < ce0 ∧ ¬ (255 : Int32) < ce1 ∧ ¬ (255 : Int32) < ce2) ∨ (∃ (b : Addr) (kb : ClassId), v = some (.ref b) ∧ n0 ≤ b ∧ h0.size ≤ b ∧ Fr n0 L ∧ Old Z n0 h ∧ Keep h0 h [] ∧ Arv Z h b kb .byte (6 : Int32) [(.int ((ce0 >>> ((0 : Int32) &&& 31)).toInt8.toInt32)), (.int ((ce0 >>> ((8 : Int32) &&& 31)).toInt8.toInt32)), (.int ((ce1 >>> ((0 : Int32) &&& 31)).toInt8.toInt32)), (.int ((ce1 >>> ((8 : Int32) &&& 31)).toInt8.toInt32)), (.int ((ce2 >>> ((0 : Int32) &&& 31)).toInt8.toInt32)), (.int ((ce2 >>> ((8 : Int32) &&& 31)).toInt8.toInt32))] (.int (0 : Int32)))
theorem cp1_3 (l : Launch) (Z : State) (a0 : Array Value) (hw : ∀ d ∈ tables_1, d.before a0 Z = true) (ws : List Jvm.Cond) (ca : Addr) (cs_ : Int32) (rf_ : Value) (kc : ClassId) (ce0 : Int32) (ce1 : Int32) (ce2 : Int32) (h0 : Heap) (n0 : Nat) (O0 : Old Z n0 h0) (HS : own_HS Z cs_ rf_) (V_c : Arv Z h0 ca kc .char (3 : Int32) [(.int ce0), (.int ce1), (.int ce2)] (.int (0 : Int32))) (HE0 : own_Ch ce0) (HE1 : own_Ch ce1) (HE2 : own_Ch ce2) :
    MetFree l oM14 (head1 (Jvm.Cond.code oM14 jdk_52_method_16_code 6 (some (.array .byte)) :: ws) ({ frames := 3, cells := 2, slots := 9, locals := 58 } : Room)) (fun aq_ U => aq_ = #[(.ref ca), (.int (0 : Int32)), (.int (3 : Int32))] ∧ Z.Warmed39 U.vm ∧ U.heap = h0) (fun _ _ _ _ _ => True) (fun _ U o U' => ∃ v L, o = .returned v ∧ Q_cp1_3 Z ca cs_ rf_ kc ce0 ce1 ce2 h0 n0 v U'.heap L ∧ FrameEnd U o U' L 2 9) := by
  refine MetFree.of_bodySF (plainFor_of_name pn_9) hisR ?_
  intro p e s m args below meth c s₁ Bd hml0 hP hK
  obtain ⟨rfl, hZ, hh⟩ := hP
  have hx := Bd.exec
  have hby := Bd.bytes
  have hml : c.maxLocals = 6 := hml0
  have hown : s.vm.findClass "java/lang/StringUTF16" = some m.cls := findClass_of_methodNamed Bd.named
  have hnm := (name_of_methodNamed Bd.named Bd.method).1
  have X0 : Stand p l e ({ frames := 3, cells := 2, slots := 9, locals := 58 } : Room) s m #[(.ref ca), (.int (0 : Int32)), (.int (3 : Int32))] below meth c s₁ [] 0 0 := Stand.of_body Bd
  have e0 : s₁.heap = h0 := by rw [← hh, Bd.state]; rfl
  have N0 := Fr.nil n0
  show oE p.tables e below (own_P s (Q_cp1_3 Z ca cs_ rf_ kc ce0 ce1 ce2 h0 n0) 2 9) _
  refine own_cast (ef_cp1_3 m ca cs_ rf_ kc ce0 ce1 ce2) ?_
  have K0 := Keep.refl h0 []
  show oE _ _ _ _ (s₁.setTop (mkF m 0 #[.val (.ref ca), .val (.int 0), .val (.int 3), .unset, .unset, .unset] []))
  refine oT (fun _ u => XS.iloadN X0.here hx rfl (hb hby d9_0) rfl u) ?_
  obtain ⟨T1, h1, k1, X1, e1, E1, A1, st1⟩ := newP X0 hx hZ (aty := .byte) (ow25 hw) e0 (g := (mkF m 1 #[.val (.ref ca), .val (.int 0), .val (.int 3), .unset, .unset, .unset] [(.int 3)])) rfl (hb hby d9_1) rfl (by decide) (cap := 3) (by decide) (by decide) (by decide) (by decide)
  obtain ⟨b1, g1⟩ : ∃ z, z = h0.size := ⟨_, rfl⟩
  rw [← g1] at A1 st1
  have ne_ca_b1 : ca ≠ b1 := Nat.ne_of_lt (Nat.lt_of_lt_of_le V_c.lt (Nat.le_of_eq g1.symm))
  have g_b1 : n0 ≤ b1 := Nat.le_trans (own_old_le O0) (Nat.le_of_eq g1.symm)
  have sz_b1 : h0.size ≤ b1 := Nat.le_trans K0.1 (Nat.le_of_eq g1.symm)
  refine oT st1 ?_
  have O1 := O0.ext E1
  have K1 := K0.ext E1
  have Vn1 : Arv Z h1 b1 k1 .byte (3 : Int32) [(.int (0 : Int32)), (.int (0 : Int32)), (.int (0 : Int32))] (.int (0 : Int32)) := (Arv.new A1 (by decide)).pad (pad_rep [] (.int (0 : Int32)) 3)
  show oE _ _ _ _ (T1.setTop (mkF m 3 #[.val (.ref ca), .val (.int 0), .val (.int 3), .unset, .unset, .unset] [(.ref b1)]))
  refine oT (fun _ u => XS.astoreN X1.here hx rfl (hb hby d9_3) rfl rfl (l' := #[.val (.ref ca), .val (.int (0 : Int32)), .val (.int (3 : Int32)), .val (.ref b1), .unset, .unset]) rfl u) ?_
  refine oT (fun _ u => XS.aloadN X1.here hx rfl (hb hby d9_4) rfl rfl u) ?_
  refine oT (fun _ u => XS.iloadN X1.here hx rfl (hb hby d9_5) rfl u) ?_
  refine oT (fun _ u => XS.aloadN X1.here hx rfl (hb hby d9_6) rfl rfl u) ?_
  refine oT (fun _ u => XS.iconst X1.here hx rfl (hb hby d9_7) u) ?_
  refine oT (fun _ u => XS.iloadN X1.here hx rfl (hb hby d9_8) rfl u) ?_
  show oE _ _ _ _ (T1.setTop (mkF m 9 #[.val (.ref ca), .val (.int 0), .val (.int 3), .val (.ref b1), .unset, .unset] [(.int 3), (.int 0), (.ref b1), (.int 0), (.ref ca)]))
  obtain ⟨_, _, ⟨T2, L2, k2, n2⟩, -, X2, ⟨Lc2, hQ2, l2, y2, z2⟩, st2⟩ := Jvm.LawKit.callS X1 hx (y := oM13) hown (mvT hZ (ow51 hw)) (mvT hZ (ow52 hw)) (mvT hZ (ow49 hw)) (mvT hZ (ow53 hw)) (by decide) (backOf (W := 0) (cp2_3 l Z a0 hw [] ca b1 kc k1 ce0 ce1 ce2 h1 n0 O1 (V_c.ext E1) Vn1 g_b1 ne_ca_b1) hZ (ow53 hw) (ow49 hw) (by decide) (by decide)) (g := (mkF m 9 #[.val (.ref ca), .val (.int 0), .val (.int 3), .val (.ref b1), .unset, .unset] [(.int 3), (.int 0), (.ref b1), (.int 0), (.ref ca)])) rfl (by rw [hml]; rfl) (argsL := [(.ref ca), (.int (0 : Int32)), (.ref b1), (.int (0 : Int32)), (.int (3 : Int32))]) (rest := []) (lenOf pd_5 rfl) rfl (by show 2 * 0 + _ ≤ _; exact Nat.le_of_eq rfl) (hb hby d9_9) (fun _ _ => ⟨rfl, e1, (own_le rfl), (own_le rfl)⟩)
  dsimp only [Pt.U, Pt.locs, Pt.cells, Pt.slots] at X2 l2 y2 z2 st2 hQ2
  subst y2 z2
  rcases hQ2 with ⟨rfl, N2q, Oq2, Kq2, Vx2, le0, le1, le2⟩ | ⟨rfl, N2q, Oq2, Kq2, gt0⟩ | ⟨rfl, N2q, Oq2, Kq2, gt1⟩ | ⟨rfl, N2q, Oq2, Kq2, gt2⟩
  · skip
    refine oT st2 ?_
    show oE _ _ _ _ (T2.setTop (mkF m 12 #[.val (.ref ca), .val (.int 0), .val (.int 3), .val (.ref b1), .unset, .unset] [(.int 3)]))
    have N2 := own_fr l2 N0 N2q
    have KK2 := K1.trans Kq2 (allS (Or.inr sz_b1) all0)
    show oE _ _ _ _ (T2.setTop (mkF m 12 #[.val (.ref ca), .val (.int 0), .val (.int 3), .val (.ref b1), .unset, .unset] [(.int 3)]))
    refine oT (fun _ u => XS.istore X2.here hx rfl (hb hby d9_12) rfl (l' := #[.val (.ref ca), .val (.int (0 : Int32)), .val (.int (3 : Int32)), .val (.ref b1), .val (.int (3 : Int32)), .unset]) rfl u) ?_
    refine oT (fun _ u => XS.iload X2.here hx rfl (hb hby d9_14) rfl u) ?_
    refine oT (fun _ u => XS.iloadN X2.here hx rfl (hb hby d9_16) rfl u) ?_
    refine oT (fun _ u => XS.icmpYes X2.here hx rfl (pc0 := 17) (pc' := 57) rfl (hb hby d9_17) rfl (teq (by decide)).1 (by decide) (by decide) u) ?_
    show oE _ _ _ _ (T2.setTop (mkF m 57 #[.val (.ref ca), .val (.int 0), .val (.int 3), .val (.ref b1), .val (.int 3), .unset] []))
    refine oT (fun _ u => XS.aloadN X2.here hx rfl (hb hby d9_57) rfl rfl u) ?_
    refine own_leave X2 (v := some (.ref b1)) (fun h => by rw [Bd.returns] at h; cases h) ?_ (by decide) (by decide) (fun fs hr => retOut X2 hx Bd.returns rfl (Or.inr (Or.inr (Or.inr (Or.inr ⟨rfl, rfl, rfl⟩)))) (hb hby d9_58) hr)
    show Q_cp1_3 Z ca cs_ rf_ kc ce0 ce1 ce2 h0 n0 _ T2.heap _
    exact Or.inl ⟨b1, k1, rfl, g_b1, sz_b1, N2, Oq2, KK2, Vx2, le0, le1, le2⟩
  · skip
    refine oT st2 ?_
    show oE _ _ _ _ (T2.setTop (mkF m 12 #[.val (.ref ca), .val (.int 0), .val (.int 3), .val (.ref b1), .unset, .unset] [(.int 0)]))
    have N2 := own_fr l2 N0 N2q
    have KK2 := K1.trans Kq2 (allS (Or.inr sz_b1) all0)
    show oE _ _ _ _ (T2.setTop (mkF m 12 #[.val (.ref ca), .val (.int 0), .val (.int 3), .val (.ref b1), .unset, .unset] [(.int 0)]))
    refine oT (fun _ u => XS.istore X2.here hx rfl (hb hby d9_12) rfl (l' := #[.val (.ref ca), .val (.int (0 : Int32)), .val (.int (3 : Int32)), .val (.ref b1), .val (.int (0 : Int32)), .unset]) rfl u) ?_
    refine oT (fun _ u => XS.iload X2.here hx rfl (hb hby d9_14) rfl u) ?_
    refine oT (fun _ u => XS.iloadN X2.here hx rfl (hb hby d9_16) rfl u) ?_
    refine oT (fun _ u => XS.icmpNo X2.here hx rfl (hb hby d9_17) rfl (feq (by decide)).1 u) ?_
    show oE _ _ _ _ (T2.setTop (mkF m 20 #[.val (.ref ca), .val (.int 0), .val (.int 3), .val (.ref b1), .val (.int 0), .unset] []))
    refine oT (fun _ u => XS.aloadN X2.here hx rfl (hb hby d9_20) rfl rfl u) ?_
    refine oT (fun _ u => XS.iloadN X2.here hx rfl (hb hby d9_21) rfl u) ?_
    refine oT (fun _ u => XS.iloadN X2.here hx rfl (hb hby d9_22) rfl u) ?_
    obtain ⟨_, _, ⟨T3, L3, k3, n3⟩, -, X3, ⟨Lc3, hQ3, l3, y3, z3⟩, st3⟩ := Jvm.LawKit.callS X2 hx (y := oM11) hown (mvT hZ (ow89 hw)) (mvT hZ (ow90 hw)) (mvT hZ (ow49 hw)) (mvT hZ (ow91 hw)) (by decide) (backOf (W := 0) (rmTB3 l Z a0 hw [] ca cs_ rf_ kc ce0 ce1 ce2 T2.heap n0 Oq2 HS ((V_c.ext E1).keep Kq2 (ninS ne_ca_b1 nin0))) hZ (ow91 hw) (ow49 hw) (by decide) (by decide)) (g := (mkF m 23 #[.val (.ref ca), .val (.int 0), .val (.int 3), .val (.ref b1), .val (.int 0), .unset] [(.int 3), (.int 0), (.ref ca)])) rfl (by rw [hml]; rfl) (argsL := [(.ref ca), (.int (0 : Int32)), (.int (3 : Int32))]) (rest := []) (lenOf pd_6 rfl) rfl (by show 2 * 0 + _ ≤ _; exact Nat.le_of_eq rfl) (hb hby d9_23) (fun _ _ => ⟨rfl, rfl, (own_le rfl), (own_le rfl)⟩)
    dsimp only [Pt.U, Pt.locs, Pt.cells, Pt.slots] at X3 l3 y3 z3 st3 hQ3
    subst y3 z3
    obtain ⟨u3, ku3, rfl, g_u3, sq_u3, N3q, Oq3, Kq3, Vx3⟩ := hQ3
    have N3 := own_fr l3 N2 N3q
    have ne_ca_u3 : ca ≠ u3 := Nat.ne_of_lt (Nat.lt_of_lt_of_le ((V_c.ext E1).keep Kq2 (ninS ne_ca_b1 nin0)).lt sq_u3)
    have sz_u3 : h0.size ≤ u3 := Nat.le_trans KK2.1 sq_u3
    have KK3 := KK2.trans Kq3 all0
    refine oT st3 ?_
    show oE _ _ _ _ (T3.setTop (mkF m 26 #[.val (.ref ca), .val (.int 0), .val (.int 3), .val (.ref b1), .val (.int 0), .unset] [(.ref u3)]))
    refine oT (fun _ u => XS.astore X3.here hx rfl (hb hby d9_26) rfl rfl (l' := #[.val (.ref ca), .val (.int (0 : Int32)), .val (.int (3 : Int32)), .val (.ref b1), .val (.int (0 : Int32)), .val (.ref u3)]) rfl u) ?_
    refine oT (fun _ u => XS.aload X3.here hx rfl (hb hby d9_28) rfl rfl u) ?_
    refine oT (fun _ u => XS.iload X3.here hx rfl (hb hby d9_30) rfl u) ?_
    obtain ⟨_, _, ⟨T4, L4, k4, n4⟩, -, X4, ⟨Lc4, hQ4, l4, y4, z4⟩, st4⟩ := Jvm.LawKit.callS X3 hx (y := oM8) hown (mvT hZ (ow105 hw)) (mvT hZ (ow106 hw)) (mvT hZ (ow49 hw)) (mvT hZ (ow107 hw)) (by decide) (backOf (W := 0) (rmGC l Z a0 hw [] u3 (0 : Int32) cs_ rf_ ku3 (6 : Int32) [(.int ((ce0 >>> ((0 : Int32) &&& 31)).toInt8.toInt32)), (.int ((ce0 >>> ((8 : Int32) &&& 31)).toInt8.toInt32)), (.int ((ce1 >>> ((0 : Int32) &&& 31)).toInt8.toInt32)), (.int ((ce1 >>> ((8 : Int32) &&& 31)).toInt8.toInt32)), (.int ((ce2 >>> ((0 : Int32) &&& 31)).toInt8.toInt32)), (.int ((ce2 >>> ((8 : Int32) &&& 31)).toInt8.toInt32))] ((ce0 >>> ((0 : Int32) &&& 31)).toInt8.toInt32) ((ce0 >>> ((8 : Int32) &&& 31)).toInt8.toInt32) T3.heap n0 Oq3 HS Vx3 ⟨by decide, by decide⟩ ⟨by decide, by decide⟩ rfl rfl) hZ (ow107 hw) (ow49 hw) (by decide) (by decide)) (g := (mkF m 32 #[.val (.ref ca), .val (.int 0), .val (.int 3), .val (.ref b1), .val (.int 0), .val (.ref u3)] [(.int 0), (.ref u3)])) rfl (by rw [hml]; rfl) (argsL := [(.ref u3), (.int (0 : Int32))]) (rest := []) (lenOf pd_7 rfl) rfl (by show 2 * 0 + _ ≤ _; exact Nat.le_of_eq rfl) (hb hby d9_32) (fun _ _ => ⟨rfl, rfl, (own_le rfl), (own_le rfl)⟩)
    dsimp only [Pt.U, Pt.locs, Pt.cells, Pt.slots] at X4 l4 y4 z4 st4 hQ4
    subst y4 z4
    obtain ⟨hv4, N4q, E4⟩ := hQ4
    rw [own_utf HE0] at hv4
    subst hv4
    have N4 := own_fr l4 N3 N4q
    refine oT st4 ?_
    show oE _ _ _ _ (T4.setTop (mkF m 35 #[.val (.ref ca), .val (.int 0), .val (.int 3), .val (.ref b1), .val (.int 0), .val (.ref u3)] [(.int ce0)]))
    refine oT (fun _ u => XS.sipush X4.here hx rfl (hb hby d9_35) u) ?_
    refine oT (fun _ u => XS.icmpYes X4.here hx rfl (pc0 := 38) (pc' := 54) rfl (hb hby d9_38) rfl (tlt gt0).2.2.1 (by decide) (by decide) u) ?_
    show oE _ _ _ _ (T4.setTop (mkF m 54 #[.val (.ref ca), .val (.int 0), .val (.int 3), .val (.ref b1), .val (.int 0), .val (.ref u3)] []))
    refine oT (fun _ u => XS.aload X4.here hx rfl (hb hby d9_54) rfl rfl u) ?_
    refine own_leave X4 (v := some (.ref u3)) (fun h => by rw [Bd.returns] at h; cases h) ?_ (by decide) (by decide) (fun fs hr => retOut X4 hx Bd.returns rfl (Or.inr (Or.inr (Or.inr (Or.inr ⟨rfl, rfl, rfl⟩)))) (hb hby d9_56) hr)
    show Q_cp1_3 Z ca cs_ rf_ kc ce0 ce1 ce2 h0 n0 _ T4.heap _
    rw [E4]
    exact Or.inr ⟨u3, ku3, rfl, g_u3, sz_u3, N4, Oq3, KK3, Vx3⟩
  · skip
    refine oT st2 ?_
    show oE _ _ _ _ (T2.setTop (mkF m 12 #[.val (.ref ca), .val (.int 0), .val (.int 3), .val (.ref b1), .unset, .unset] [(.int 1)]))
    have N2 := own_fr l2 N0 N2q
    have KK2 := K1.trans Kq2 (allS (Or.inr sz_b1) all0)
    show oE _ _ _ _ (T2.setTop (mkF m 12 #[.val (.ref ca), .val (.int 0), .val (.int 3), .val (.ref b1), .unset, .unset] [(.int 1)]))
    refine oT (fun _ u => XS.istore X2.here hx rfl (hb hby d9_12) rfl (l' := #[.val (.ref ca), .val (.int (0 : Int32)), .val (.int (3 : Int32)), .val (.ref b1), .val (.int (1 : Int32)), .unset]) rfl u) ?_
    refine oT (fun _ u => XS.iload X2.here hx rfl (hb hby d9_14) rfl u) ?_
    refine oT (fun _ u => XS.iloadN X2.here hx rfl (hb hby d9_16) rfl u) ?_
    refine oT (fun _ u => XS.icmpNo X2.here hx rfl (hb hby d9_17) rfl (feq (by decide)).1 u) ?_
    show oE _ _ _ _ (T2.setTop (mkF m 20 #[.val (.ref ca), .val (.int 0), .val (.int 3), .val (.ref b1), .val (.int 1), .unset] []))
    refine oT (fun _ u => XS.aloadN X2.here hx rfl (hb hby d9_20) rfl rfl u) ?_
    refine oT (fun _ u => XS.iloadN X2.here hx rfl (hb hby d9_21) rfl u) ?_
    refine oT (fun _ u => XS.iloadN X2.here hx rfl (hb hby d9_22) rfl u) ?_
    obtain ⟨_, _, ⟨T5, L5, k5, n5⟩, -, X5, ⟨Lc5, hQ5, l5, y5, z5⟩, st5⟩ := Jvm.LawKit.callS X2 hx (y := oM11) hown (mvT hZ (ow89 hw)) (mvT hZ (ow90 hw)) (mvT hZ (ow49 hw)) (mvT hZ (ow91 hw)) (by decide) (backOf (W := 0) (rmTB3 l Z a0 hw [] ca cs_ rf_ kc ce0 ce1 ce2 T2.heap n0 Oq2 HS ((V_c.ext E1).keep Kq2 (ninS ne_ca_b1 nin0))) hZ (ow91 hw) (ow49 hw) (by decide) (by decide)) (g := (mkF m 23 #[.val (.ref ca), .val (.int 0), .val (.int 3), .val (.ref b1), .val (.int 1), .unset] [(.int 3), (.int 0), (.ref ca)])) rfl (by rw [hml]; rfl) (argsL := [(.ref ca), (.int (0 : Int32)), (.int (3 : Int32))]) (rest := []) (lenOf pd_6 rfl) rfl (by show 2 * 0 + _ ≤ _; exact Nat.le_of_eq rfl) (hb hby d9_23) (fun _ _ => ⟨rfl, rfl, (own_le rfl), (own_le rfl)⟩)
    dsimp only [Pt.U, Pt.locs, Pt.cells, Pt.slots] at X5 l5 y5 z5 st5 hQ5
    subst y5 z5
    obtain ⟨u5, ku5, rfl, g_u5, sq_u5, N5q, Oq5, Kq5, Vx5⟩ := hQ5
    have N5 := own_fr l5 N2 N5q
    have ne_ca_u5 : ca ≠ u5 := Nat.ne_of_lt (Nat.lt_of_lt_of_le ((V_c.ext E1).keep Kq2 (ninS ne_ca_b1 nin0)).lt sq_u5)
    have sz_u5 : h0.size ≤ u5 := Nat.le_trans KK2.1 sq_u5
    have KK5 := KK2.trans Kq5 all0
    refine oT st5 ?_
    show oE _ _ _ _ (T5.setTop (mkF m 26 #[.val (.ref ca), .val (.int 0), .val (.int 3), .val (.ref b1), .val (.int 1), .unset] [(.ref u5)]))
    refine oT (fun _ u => XS.astore X5.here hx rfl (hb hby d9_26) rfl rfl (l' := #[.val (.ref ca), .val (.int (0 : Int32)), .val (.int (3 : Int32)), .val (.ref b1), .val (.int (1 : Int32)), .val (.ref u5)]) rfl u) ?_
    refine oT (fun _ u => XS.aload X5.here hx rfl (hb hby d9_28) rfl rfl u) ?_
    refine oT (fun _ u => XS.iload X5.here hx rfl (hb hby d9_30) rfl u) ?_
    obtain ⟨_, _, ⟨T6, L6, k6, n6⟩, -, X6, ⟨Lc6, hQ6, l6, y6, z6⟩, st6⟩ := Jvm.LawKit.callS X5 hx (y := oM8) hown (mvT hZ (ow105 hw)) (mvT hZ (ow106 hw)) (mvT hZ (ow49 hw)) (mvT hZ (ow107 hw)) (by decide) (backOf (W := 0) (rmGC l Z a0 hw [] u5 (1 : Int32) cs_ rf_ ku5 (6 : Int32) [(.int ((ce0 >>> ((0 : Int32) &&& 31)).toInt8.toInt32)), (.int ((ce0 >>> ((8 : Int32) &&& 31)).toInt8.toInt32)), (.int ((ce1 >>> ((0 : Int32) &&& 31)).toInt8.toInt32)), (.int ((ce1 >>> ((8 : Int32) &&& 31)).toInt8.toInt32)), (.int ((ce2 >>> ((0 : Int32) &&& 31)).toInt8.toInt32)), (.int ((ce2 >>> ((8 : Int32) &&& 31)).toInt8.toInt32))] ((ce1 >>> ((0 : Int32) &&& 31)).toInt8.toInt32) ((ce1 >>> ((8 : Int32) &&& 31)).toInt8.toInt32) T5.heap n0 Oq5 HS Vx5 ⟨by decide, by decide⟩ ⟨by decide, by decide⟩ rfl rfl) hZ (ow107 hw) (ow49 hw) (by decide) (by decide)) (g := (mkF m 32 #[.val (.ref ca), .val (.int 0), .val (.int 3), .val (.ref b1), .val (.int 1), .val (.ref u5)] [(.int 1), (.ref u5)])) rfl (by rw [hml]; rfl) (argsL := [(.ref u5), (.int (1 : Int32))]) (rest := []) (lenOf pd_7 rfl) rfl (by show 2 * 0 + _ ≤ _; exact Nat.le_of_eq rfl) (hb hby d9_32) (fun _ _ => ⟨rfl, rfl, (own_le rfl), (own_le rfl)⟩)
    dsimp only [Pt.U, Pt.locs, Pt.cells, Pt.slots] at X6 l6 y6 z6 st6 hQ6
    subst y6 z6
    obtain ⟨hv6, N6q, E6⟩ := hQ6
    rw [own_utf HE1] at hv6
    subst hv6
    have N6 := own_fr l6 N5 N6q
    refine oT st6 ?_
    show oE _ _ _ _ (T6.setTop (mkF m 35 #[.val (.ref ca), .val (.int 0), .val (.int 3), .val (.ref b1), .val (.int 1), .val (.ref u5)] [(.int ce1)]))
    refine oT (fun _ u => XS.sipush X6.here hx rfl (hb hby d9_35) u) ?_
    refine oT (fun _ u => XS.icmpYes X6.here hx rfl (pc0 := 38) (pc' := 54) rfl (hb hby d9_38) rfl (tlt gt1).2.2.1 (by decide) (by decide) u) ?_
    show oE _ _ _ _ (T6.setTop (mkF m 54 #[.val (.ref ca), .val (.int 0), .val (.int 3), .val (.ref b1), .val (.int 1), .val (.ref u5)] []))
    refine oT (fun _ u => XS.aload X6.here hx rfl (hb hby d9_54) rfl rfl u) ?_
    refine own_leave X6 (v := some (.ref u5)) (fun h => by rw [Bd.returns] at h; cases h) ?_ (by decide) (by decide) (fun fs hr => retOut X6 hx Bd.returns rfl (Or.inr (Or.inr (Or.inr (Or.inr ⟨rfl, rfl, rfl⟩)))) (hb hby d9_56) hr)
    show Q_cp1_3 Z ca cs_ rf_ kc ce0 ce1 ce2 h0 n0 _ T6.heap _
    rw [E6]
    exact Or.inr ⟨u5, ku5, rfl, g_u5, sz_u5, N6, Oq5, KK5, Vx5⟩
  · skip
    refine oT st2 ?_
    show oE _ _ _ _ (T2.setTop (mkF m 12 #[.val (.ref ca), .val (.int 0), .val (.int 3), .val (.ref b1), .unset, .unset] [(.int 2)]))
    have N2 := own_fr l2 N0 N2q
    have KK2 := K1.trans Kq2 (allS (Or.inr sz_b1) all0)
    show oE _ _ _ _ (T2.setTop (mkF m 12 #[.val (.ref ca), .val (.int 0), .val (.int 3), .val (.ref b1), .unset, .unset] [(.int 2)]))
    refine oT (fun _ u => XS.istore X2.here hx rfl (hb hby d9_12) rfl (l' := #[.val (.ref ca), .val (.int (0 : Int32)), .val (.int (3 : Int32)), .val (.ref b1), .val (.int (2 : Int32)), .unset]) rfl u) ?_
    refine oT (fun _ u => XS.iload X2.here hx rfl (hb hby d9_14) rfl u) ?_
    refine oT (fun _ u => XS.iloadN X2.here hx rfl (hb hby d9_16) rfl u) ?_
    refine oT (fun _ u => XS.icmpNo X2.here hx rfl (hb hby d9_17) rfl (feq (by decide)).1 u) ?_
    show oE _ _ _ _ (T2.setTop (mkF m 20 #[.val (.ref ca), .val (.int 0), .val (.int 3), .val (.ref b1), .val (.int 2), .unset] []))
    refine oT (fun _ u => XS.aloadN X2.here hx rfl (hb hby d9_20) rfl rfl u) ?_
    refine oT (fun _ u => XS.iloadN X2.here hx rfl (hb hby d9_21) rfl u) ?_
    refine oT (fun _ u => XS.iloadN X2.here hx rfl (hb hby d9_22) rfl u) ?_
    obtain ⟨_, _, ⟨T7, L7, k7, n7⟩, -, X7, ⟨Lc7, hQ7, l7, y7, z7⟩, st7⟩ := Jvm.LawKit.callS X2 hx (y := oM11) hown (mvT hZ (ow89 hw)) (mvT hZ (ow90 hw)) (mvT hZ (ow49 hw)) (mvT hZ (ow91 hw)) (by decide) (backOf (W := 0) (rmTB3 l Z a0 hw [] ca cs_ rf_ kc ce0 ce1 ce2 T2.heap n0 Oq2 HS ((V_c.ext E1).keep Kq2 (ninS ne_ca_b1 nin0))) hZ (ow91 hw) (ow49 hw) (by decide) (by decide)) (g := (mkF m 23 #[.val (.ref ca), .val (.int 0), .val (.int 3), .val (.ref b1), .val (.int 2), .unset] [(.int 3), (.int 0), (.ref ca)])) rfl (by rw [hml]; rfl) (argsL := [(.ref ca), (.int (0 : Int32)), (.int (3 : Int32))]) (rest := []) (lenOf pd_6 rfl) rfl (by show 2 * 0 + _ ≤ _; exact Nat.le_of_eq rfl) (hb hby d9_23) (fun _ _ => ⟨rfl, rfl, (own_le rfl), (own_le rfl)⟩)
    dsimp only [Pt.U, Pt.locs, Pt.cells, Pt.slots] at X7 l7 y7 z7 st7 hQ7
    subst y7 z7
    obtain ⟨u7, ku7, rfl, g_u7, sq_u7, N7q, Oq7, Kq7, Vx7⟩ := hQ7
    have N7 := own_fr l7 N2 N7q
    have ne_ca_u7 : ca ≠ u7 := Nat.ne_of_lt (Nat.lt_of_lt_of_le ((V_c.ext E1).keep Kq2 (ninS ne_ca_b1 nin0)).lt sq_u7)
    have sz_u7 : h0.size ≤ u7 := Nat.le_trans KK2.1 sq_u7
    have KK7 := KK2.trans Kq7 all0
    refine oT st7 ?_
    show oE _ _ _ _ (T7.setTop (mkF m 26 #[.val (.ref ca), .val (.int 0), .val (.int 3), .val (.ref b1), .val (.int 2), .unset] [(.ref u7)]))
    refine oT (fun _ u => XS.astore X7.here hx rfl (hb hby d9_26) rfl rfl (l' := #[.val (.ref ca), .val (.int (0 : Int32)), .val (.int (3 : Int32)), .val (.ref b1), .val (.int (2 : Int32)), .val (.ref u7)]) rfl u) ?_
    refine oT (fun _ u => XS.aload X7.here hx rfl (hb hby d9_28) rfl rfl u) ?_
    refine oT (fun _ u => XS.iload X7.here hx rfl (hb hby d9_30) rfl u) ?_
    obtain ⟨_, _, ⟨T8, L8, k8, n8⟩, -, X8, ⟨Lc8, hQ8, l8, y8, z8⟩, st8⟩ := Jvm.LawKit.callS X7 hx (y := oM8) hown (mvT hZ (ow105 hw)) (mvT hZ (ow106 hw)) (mvT hZ (ow49 hw)) (mvT hZ (ow107 hw)) (by decide) (backOf (W := 0) (rmGC l Z a0 hw [] u7 (2 : Int32) cs_ rf_ ku7 (6 : Int32) [(.int ((ce0 >>> ((0 : Int32) &&& 31)).toInt8.toInt32)), (.int ((ce0 >>> ((8 : Int32) &&& 31)).toInt8.toInt32)), (.int ((ce1 >>> ((0 : Int32) &&& 31)).toInt8.toInt32)), (.int ((ce1 >>> ((8 : Int32) &&& 31)).toInt8.toInt32)), (.int ((ce2 >>> ((0 : Int32) &&& 31)).toInt8.toInt32)), (.int ((ce2 >>> ((8 : Int32) &&& 31)).toInt8.toInt32))] ((ce2 >>> ((0 : Int32) &&& 31)).toInt8.toInt32) ((ce2 >>> ((8 : Int32) &&& 31)).toInt8.toInt32) T7.heap n0 Oq7 HS Vx7 ⟨by decide, by decide⟩ ⟨by decide, by decide⟩ rfl rfl) hZ (ow107 hw) (ow49 hw) (by decide) (by decide)) (g := (mkF m 32 #[.val (.ref ca), .val (.int 0), .val (.int 3), .val (.ref b1), .val (.int 2), .val (.ref u7)] [(.int 2), (.ref u7)])) rfl (by rw [hml]; rfl) (argsL := [(.ref u7), (.int (2 : Int32))]) (rest := []) (lenOf pd_7 rfl) rfl (by show 2 * 0 + _ ≤ _; exact Nat.le_of_eq rfl) (hb hby d9_32) (fun _ _ => ⟨rfl, rfl, (own_le rfl), (own_le rfl)⟩)
    dsimp only [Pt.U, Pt.locs, Pt.cells, Pt.slots] at X8 l8 y8 z8 st8 hQ8
    subst y8 z8
    obtain ⟨hv8, N8q, E8⟩ := hQ8
    rw [own_utf HE2] at hv8
    subst hv8
    have N8 := own_fr l8 N7 N8q
    refine oT st8 ?_
    show oE _ _ _ _ (T8.setTop (mkF m 35 #[.val (.ref ca), .val (.int 0), .val (.int 3), .val (.ref b1), .val (.int 2), .val (.ref u7)] [(.int ce2)]))
    refine oT (fun _ u => XS.sipush X8.here hx rfl (hb hby d9_35) u) ?_
    refine oT (fun _ u => XS.icmpYes X8.here hx rfl (pc0 := 38) (pc' := 54) rfl (hb hby d9_38) rfl (tlt gt2).2.2.1 (by decide) (by decide) u) ?_
    show oE _ _ _ _ (T8.setTop (mkF m 54 #[.val (.ref ca), .val (.int 0), .val (.int 3), .val (.ref b1), .val (.int 2), .val (.ref u7)] []))
    refine oT (fun _ u => XS.aload X8.here hx rfl (hb hby d9_54) rfl rfl u) ?_
    refine own_leave X8 (v := some (.ref u7)) (fun h => by rw [Bd.returns] at h; cases h) ?_ (by decide) (by decide) (fun fs hr => retOut X8 hx Bd.returns rfl (Or.inr (Or.inr (Or.inr (Or.inr ⟨rfl, rfl, rfl⟩)))) (hb hby d9_56) hr)
    show Q_cp1_3 Z ca cs_ rf_ kc ce0 ce1 ce2 h0 n0 _ T8.heap _
    rw [E8]
    exact Or.inr ⟨u7, ku7, rfl, g_u7, sz_u7, N8, Oq7, KK7, Vx7⟩
theorem ef_in4_3 (m : MethodId) (a : Addr) (ca : Addr) (cs_ : Int32) (rf_ : Value) (kc : ClassId) (ce0 : Int32) (ce1 : Int32) (ce2 : Int32) : entryFrame m #[(.ref a), (.ref ca), (.int (0 : Int32)), (.int (3 : Int32)), .null] 6 = mkF m 0 #[.val (.ref a), .val (.ref ca), .val (.int (0 : Int32)), .val (.int (3 : Int32)), .val .null, .unset] [] := by first | (simp [entryFrame, mkF, argsToLocals, Value.category]; done) | rfl | (rcases ref_cases hrf with rfl | ⟨q, rfl⟩ <;> rfl)
def Q_in4_3 (Z : State) (a : Addr) (ca : Addr) (cs_ : Int32) (rf_ : Value) (kc : ClassId) (ce0 : Int32) (ce1 : Int32) (ce2 : Int32) (h0 : Heap) (n0 : Nat) (v : Option Value) (h : Heap) (L : List Loc) : Prop := v = none ∧ Fr n0 L ∧ Old Z n0 h ∧ Keep h0 h [a] ∧ own_Tx3 Z h a ce0 ce1 ce2
theorem in4_3 (l : Launch) (Z : State) (a0 : Array Value) (hw : ∀ d ∈ tables_1, d.before a0 Z = true) (ws : List Jvm.Cond) (a : Addr) (ca : Addr) (cs_ : Int32) (rf_ : Value) (kc : ClassId) (ce0 : Int32) (ce1 : Int32) (ce2 : Int32) (h0 : Heap) (n0 : Nat) (O0 : Old Z n0 h0) (g_a : n0 ≤ a) (E_a : Exa Z h0 a "java/lang/String") (F_v : Fld Z h0 a "java/lang/String" "value" "[B" .null) (F_c : Fld Z h0 a "java/lang/String" "coder" "B" (.int (0 : Int32))) (V_c : Arv Z h0 ca kc .char (3 : Int32) [(.int ce0), (.int ce1), (.int ce2)] (.int (0 : Int32))) (ne_ca_a : ca ≠ a) (HS : own_HS Z cs_ rf_) (HE0 : own_Ch ce0) (HE1 : own_Ch ce1) (HE2 : own_Ch ce2) :
    MetFree l oM15 (head1 (Jvm.Cond.code oM15 jdk_42_method_149_code 6 none :: ws) ({ frames := 4, cells := 2, slots := 9, locals := 80 } : Room)) (fun aq_ U => aq_ = #[(.ref a), (.ref ca), (.int (0 : Int32)), (.int (3 : Int32)), .null] ∧ Z.Warmed39 U.vm ∧ U.heap = h0) (fun _ _ _ _ _ => True) (fun _ U o U' => ∃ v L, o = .returned v ∧ Q_in4_3 Z a ca cs_ rf_ kc ce0 ce1 ce2 h0 n0 v U'.heap L ∧ FrameEnd U o U' L 2 9) := by
  refine MetFree.of_bodySF (plainFor_of_name pn_4) hisR ?_
  intro p e s m args below meth c s₁ Bd hml0 hP hK
  obtain ⟨rfl, hZ, hh⟩ := hP
  have hx := Bd.exec
  have hby := Bd.bytes
  have hml : c.maxLocals = 6 := hml0
  have hown : s.vm.findClass "java/lang/String" = some m.cls := findClass_of_methodNamed Bd.named
  have hnm := (name_of_methodNamed Bd.named Bd.method).1
  have X0 : Stand p l e ({ frames := 4, cells := 2, slots := 9, locals := 80 } : Room) s m #[(.ref a), (.ref ca), (.int (0 : Int32)), (.int (3 : Int32)), .null] below meth c s₁ [] 0 0 := Stand.of_body Bd
  have e0 : s₁.heap = h0 := by rw [← hh, Bd.state]; rfl
  have N0 := Fr.nil n0
  show oE p.tables e below (own_P s (Q_in4_3 Z a ca cs_ rf_ kc ce0 ce1 ce2 h0 n0) 2 9) _
  refine own_cast (ef_in4_3 m a ca cs_ rf_ kc ce0 ce1 ce2) ?_
  have K0 := Keep.refl h0 [a]
  show oE _ _ _ _ (s₁.setTop (mkF m 0 #[.val (.ref a), .val (.ref ca), .val (.int 0), .val (.int 3), .val .null, .unset] []))
  refine oT (fun _ u => XS.aloadN X0.here hx rfl (hb hby d4_0) rfl rfl u) ?_
  obtain ⟨T1, X1, e1, st1⟩ := initO X0 hx hZ hown (ow21 hw) (ow22 hw) (ow23 hw) e0 (g := (mkF m 1 #[.val (.ref a), .val (.ref ca), .val (.int 0), .val (.int 3), .val .null, .unset] [(.ref a)])) rfl (by rw [hml]; rfl) rfl (hb hby d4_1) (by decide) (W := 0) (by show 2 * 0 + _ ≤ _; exact Nat.le_of_eq rfl) (by decide)
  refine oT st1 ?_
  show oE _ _ _ _ (T1.setTop (mkF m 4 #[.val (.ref a), .val (.ref ca), .val (.int 0), .val (.int 3), .val .null, .unset] []))
  refine oT (fun _ u => XS.iloadN X1.here hx rfl (hb hby d4_4) rfl u) ?_
  refine oT (fun _ u => XS.ifYes X1.here hx rfl (pc0 := 5) (pc' := 27) rfl (hb hby d4_5) rfl ((if0 _ _).trans (feq (by decide)).2) (by decide) (by decide) u) ?_
  show oE _ _ _ _ (T1.setTop (mkF m 27 #[.val (.ref a), .val (.ref ca), .val (.int 0), .val (.int 3), .val .null, .unset] []))
  obtain ⟨T2, X2, e2, st2⟩ := getS2 X1 hx hZ hown (host := "") (Or.inl (ow46 hw)) Via.refl e1 (HS.1.ext O0.2) (g := (mkF m 27 #[.val (.ref a), .val (.ref ca), .val (.int 0), .val (.int 3), .val .null, .unset] [])) rfl (hb hby d4_27)
  refine oT st2 ?_
  show oE _ _ _ _ (T2.setTop (mkF m 30 #[.val (.ref a), .val (.ref ca), .val (.int 0), .val (.int 3), .val .null, .unset] [(.int cs_)]))
  refine oT (fun _ u => XS.ifNo X2.here hx rfl (hb hby d4_30) rfl ((if0 _ _).trans (feq HS.2.2.2.2.2.1).1) u) ?_
  show oE _ _ _ _ (T2.setTop (mkF m 33 #[.val (.ref a), .val (.ref ca), .val (.int 0), .val (.int 3), .val .null, .unset] []))
  refine oT (fun _ u => XS.aloadN X2.here hx rfl (hb hby d4_33) rfl rfl u) ?_
  refine oT (fun _ u => XS.iloadN X2.here hx rfl (hb hby d4_34) rfl u) ?_
  refine oT (fun _ u => XS.iloadN X2.here hx rfl (hb hby d4_35) rfl u) ?_
  obtain ⟨_, _, ⟨T3, L3, k3, n3⟩, -, X3, ⟨Lc3, hQ3, l3, y3, z3⟩, st3⟩ := Jvm.LawKit.callS X2 hx (y := oM14) hown (mvT hZ (ow47 hw)) (mvT hZ (ow48 hw)) (mvT hZ (ow49 hw)) (mvT hZ (ow50 hw)) (by decide) (backOf (W := 0) (cp1_3 l Z a0 hw [] ca cs_ rf_ kc ce0 ce1 ce2 h0 n0 O0 HS V_c HE0 HE1 HE2) hZ (ow50 hw) (ow49 hw) (by decide) (by decide)) (g := (mkF m 36 #[.val (.ref a), .val (.ref ca), .val (.int 0), .val (.int 3), .val .null, .unset] [(.int 3), (.int 0), (.ref ca)])) rfl (by rw [hml]; rfl) (argsL := [(.ref ca), (.int (0 : Int32)), (.int (3 : Int32))]) (rest := []) (lenOf pd_6 rfl) rfl (by show 2 * 0 + _ ≤ _; exact Nat.le_of_eq rfl) (hb hby d4_36) (fun _ _ => ⟨rfl, e2, (own_le rfl), (own_le rfl)⟩)
  dsimp only [Pt.U, Pt.locs, Pt.cells, Pt.slots] at X3 l3 y3 z3 st3 hQ3
  subst y3 z3
  rcases hQ3 with ⟨u3, ku3, rfl, g_u3, sq_u3, N3q, Oq3, Kq3, Vx3, le0, le1, le2⟩ | ⟨u3, ku3, rfl, g_u3, sq_u3, N3q, Oq3, Kq3, Vx3⟩
  · skip
    refine oT st3 ?_
    show oE _ _ _ _ (T3.setTop (mkF m 39 #[.val (.ref a), .val (.ref ca), .val (.int 0), .val (.int 3), .val .null, .unset] [(.ref u3)]))
    have N3 := own_fr l3 N0 N3q
    have ne_ca_u3 : ca ≠ u3 := Nat.ne_of_lt (Nat.lt_of_lt_of_le V_c.lt sq_u3)
    have ne_a_u3 : a ≠ u3 := Nat.ne_of_lt (Nat.lt_of_lt_of_le E_a.lt sq_u3)
    have sz_u3 : h0.size ≤ u3 := Nat.le_trans K0.1 sq_u3
    have KK3 := K0.trans Kq3 all0
    show oE _ _ _ _ (T3.setTop (mkF m 39 #[.val (.ref a), .val (.ref ca), .val (.int 0), .val (.int 3), .val .null, .unset] [(.ref u3)]))
    refine oT (fun _ u => XS.astore X3.here hx rfl (hb hby d4_39) rfl rfl (l' := #[.val (.ref a), .val (.ref ca), .val (.int (0 : Int32)), .val (.int (3 : Int32)), .val .null, .val (.ref u3)]) rfl u) ?_
    refine oT (fun _ u => XS.aloadN X3.here hx rfl (hb hby d4_41) rfl rfl u) ?_
    refine oT (fun _ u => XS.aload X3.here hx rfl (hb hby d4_42) rfl rfl u) ?_
    refine oT (fun _ u => XS.iloadN X3.here hx rfl (hb hby d4_44) rfl u) ?_
    obtain ⟨_, _, ⟨T4, L4, k4, n4⟩, -, X4, ⟨Lc4, hQ4, l4, y4, z4⟩, st4⟩ := Jvm.LawKit.callS X3 hx (y := oM12) hown (mvT hZ (ow54 hw)) (mvT hZ (ow55 hw)) (mvT hZ (ow49 hw)) (mvT hZ (ow56 hw)) (by decide) (backOf (W := 1) (rmCF l Z a0 hw [] u3 (3 : Int32) cs_ rf_ ku3 (3 : Int32) [(.int (ce0.toInt8.toInt32)), (.int (ce1.toInt8.toInt32)), (.int (ce2.toInt8.toInt32))] T3.heap n0 Oq3 Vx3) hZ (ow56 hw) (ow49 hw) (by decide) (by decide)) (g := (mkF m 45 #[.val (.ref a), .val (.ref ca), .val (.int 0), .val (.int 3), .val .null, .val (.ref u3)] [(.int 3), (.ref u3), (.ref a)])) rfl (by rw [hml]; rfl) (argsL := [(.ref u3), (.int (3 : Int32))]) (rest := [(.ref a)]) (lenOf pd_8 rfl) rfl (by show 2 * 0 + _ ≤ _; exact Nat.le_of_eq rfl) (hb hby d4_45) (fun _ _ => ⟨rfl, rfl, (own_le rfl), (own_le rfl)⟩)
    dsimp only [Pt.U, Pt.locs, Pt.cells, Pt.slots] at X4 l4 y4 z4 st4 hQ4
    subst y4 z4
    obtain ⟨hv4, N4q, E4⟩ := hQ4
    rw [show nar .byte (((((3 : Int32) - (3 : Int32)).toUInt32 >>> ((31 : Int32) &&& 31).toUInt32).toInt32).toInt8.toInt32) = (0 : Int32) from by decide] at hv4
    subst hv4
    have N4 := own_fr l4 N3 N4q
    refine oT st4 ?_
    show oE _ _ _ _ (T4.setTop (mkF m 48 #[.val (.ref a), .val (.ref ca), .val (.int 0), .val (.int 3), .val .null, .val (.ref u3)] [(.int 0), (.ref a)]))
    obtain ⟨T5, h5, X5, e5, W5, st5⟩ := putFN X4 hx hZ hown (ow31 hw) Via.refl E4 (F_c.keep Kq3 nin0) (E_a.keep Kq3) (Or.inr ⟨(ow27 hw), rfl, hnm⟩) (ow8 hw) (ty := .byte) (v' := (.int (nar .byte (0 : Int32)))) (by decide) rfl (fits_nar_byte _) (g := (mkF m 48 #[.val (.ref a), .val (.ref ca), .val (.int 0), .val (.int 3), .val .null, .val (.ref u3)] [(.int 0), (.ref a)])) rfl rfl (hb hby d4_48)
    refine oT st5 ?_
    have Fw5 : Fld Z h5 a "java/lang/String" "coder" "B" (.int (0 : Int32)) := (F_c.keep Kq3 nin0).same W5
    have O5 := Oq3.wr W5 g_a
    have N5 := Fr.snoc X5 N4 g_a
    have K5 := KK3.wr W5 (Or.inl (List.mem_of_getElem? (i := 0) rfl))
    show oE _ _ _ _ (T5.setTop (mkF m 51 #[.val (.ref a), .val (.ref ca), .val (.int 0), .val (.int 3), .val .null, .val (.ref u3)] []))
    refine oT (fun _ u => XS.aloadN X5.here hx rfl (hb hby d4_51) rfl rfl u) ?_
    refine oT (fun _ u => XS.aload X5.here hx rfl (hb hby d4_52) rfl rfl u) ?_
    obtain ⟨T6, h6, X6, e6, W6, st6⟩ := putF X5 hx hZ hown (host := "") (Or.inl (ow30 hw)) Via.refl e5 ((F_v.keep Kq3 nin0).other W5 (Or.inr (slot_ne (Or.inr (ow26 hw)) (Or.inr (ow27 hw)) (by decide) (t := (.array .byte)) (t' := .byte) (by decide) (by decide)))) ((E_a.keep Kq3).wr W5) (Or.inr ⟨(ow26 hw), rfl, hnm⟩) (ow8 hw) (ty := (.array .byte)) (by decide) rfl rfl (g := (mkF m 54 #[.val (.ref a), .val (.ref ca), .val (.int 0), .val (.int 3), .val .null, .val (.ref u3)] [(.ref u3), (.ref a)])) rfl rfl (hb hby d4_54)
    refine oT st6 ?_
    have Fw6 : Fld Z h6 a "java/lang/String" "value" "[B" (.ref u3) := ((F_v.keep Kq3 nin0).other W5 (Or.inr (slot_ne (Or.inr (ow26 hw)) (Or.inr (ow27 hw)) (by decide) (t := (.array .byte)) (t' := .byte) (by decide) (by decide)))).same W6
    have O6 := O5.wr W6 g_a
    have N6 := Fr.snoc X6 N5 g_a
    have K6 := K5.wr W6 (Or.inl (List.mem_of_getElem? (i := 0) rfl))
    show oE _ _ _ _ (T6.setTop (mkF m 57 #[.val (.ref a), .val (.ref ca), .val (.int 0), .val (.int 3), .val .null, .val (.ref u3)] []))
    refine own_leave X6 (v := none) (fun _ => rfl) ?_ (by decide) (by decide) (fun fs hr => X6.returnOut hx Bd.returns (hb hby d4_57) hr)
    show Q_in4_3 Z a ca cs_ rf_ kc ce0 ce1 ce2 h0 n0 _ T6.heap _
    rw [e6]
    exact ⟨rfl, N6, O6, K6, Or.inl ⟨u3, ku3, (((E_a.keep Kq3).wr W5).wr W6), (Fw5.other W6 (Or.inr (slot_ne (Or.inr (ow27 hw)) (Or.inr (ow26 hw)) (by decide) (t := .byte) (t' := (.array .byte)) (by decide) (by decide)))), Fw6, ((Vx3.other W5 (Ne.symm ne_a_u3)).other W6 (Ne.symm ne_a_u3)), le0, le1, le2⟩⟩
  · skip
    refine oT st3 ?_
    show oE _ _ _ _ (T3.setTop (mkF m 39 #[.val (.ref a), .val (.ref ca), .val (.int 0), .val (.int 3), .val .null, .unset] [(.ref u3)]))
    have N3 := own_fr l3 N0 N3q
    have ne_ca_u3 : ca ≠ u3 := Nat.ne_of_lt (Nat.lt_of_lt_of_le V_c.lt sq_u3)
    have ne_a_u3 : a ≠ u3 := Nat.ne_of_lt (Nat.lt_of_lt_of_le E_a.lt sq_u3)
    have sz_u3 : h0.size ≤ u3 := Nat.le_trans K0.1 sq_u3
    have KK3 := K0.trans Kq3 all0
    show oE _ _ _ _ (T3.setTop (mkF m 39 #[.val (.ref a), .val (.ref ca), .val (.int 0), .val (.int 3), .val .null, .unset] [(.ref u3)]))
    refine oT (fun _ u => XS.astore X3.here hx rfl (hb hby d4_39) rfl rfl (l' := #[.val (.ref a), .val (.ref ca), .val (.int (0 : Int32)), .val (.int (3 : Int32)), .val .null, .val (.ref u3)]) rfl u) ?_
    refine oT (fun _ u => XS.aloadN X3.here hx rfl (hb hby d4_41) rfl rfl u) ?_
    refine oT (fun _ u => XS.aload X3.here hx rfl (hb hby d4_42) rfl rfl u) ?_
    refine oT (fun _ u => XS.iloadN X3.here hx rfl (hb hby d4_44) rfl u) ?_
    obtain ⟨_, _, ⟨T7, L7, k7, n7⟩, -, X7, ⟨Lc7, hQ7, l7, y7, z7⟩, st7⟩ := Jvm.LawKit.callS X3 hx (y := oM12) hown (mvT hZ (ow54 hw)) (mvT hZ (ow55 hw)) (mvT hZ (ow49 hw)) (mvT hZ (ow56 hw)) (by decide) (backOf (W := 1) (rmCF l Z a0 hw [] u3 (3 : Int32) cs_ rf_ ku3 (6 : Int32) [(.int ((ce0 >>> ((0 : Int32) &&& 31)).toInt8.toInt32)), (.int ((ce0 >>> ((8 : Int32) &&& 31)).toInt8.toInt32)), (.int ((ce1 >>> ((0 : Int32) &&& 31)).toInt8.toInt32)), (.int ((ce1 >>> ((8 : Int32) &&& 31)).toInt8.toInt32)), (.int ((ce2 >>> ((0 : Int32) &&& 31)).toInt8.toInt32)), (.int ((ce2 >>> ((8 : Int32) &&& 31)).toInt8.toInt32))] T3.heap n0 Oq3 Vx3) hZ (ow56 hw) (ow49 hw) (by decide) (by decide)) (g := (mkF m 45 #[.val (.ref a), .val (.ref ca), .val (.int 0), .val (.int 3), .val .null, .val (.ref u3)] [(.int 3), (.ref u3), (.ref a)])) rfl (by rw [hml]; rfl) (argsL := [(.ref u3), (.int (3 : Int32))]) (rest := [(.ref a)]) (lenOf pd_8 rfl) rfl (by show 2 * 0 + _ ≤ _; exact Nat.le_of_eq rfl) (hb hby d4_45) (fun _ _ => ⟨rfl, rfl, (own_le rfl), (own_le rfl)⟩)
    dsimp only [Pt.U, Pt.locs, Pt.cells, Pt.slots] at X7 l7 y7 z7 st7 hQ7
    subst y7 z7
    obtain ⟨hv7, N7q, E7⟩ := hQ7
    rw [show nar .byte (((((3 : Int32) - (6 : Int32)).toUInt32 >>> ((31 : Int32) &&& 31).toUInt32).toInt32).toInt8.toInt32) = (1 : Int32) from by decide] at hv7
    subst hv7
    have N7 := own_fr l7 N3 N7q
    refine oT st7 ?_
    show oE _ _ _ _ (T7.setTop (mkF m 48 #[.val (.ref a), .val (.ref ca), .val (.int 0), .val (.int 3), .val .null, .val (.ref u3)] [(.int 1), (.ref a)]))
    obtain ⟨T8, h8, X8, e8, W8, st8⟩ := putFN X7 hx hZ hown (ow31 hw) Via.refl E7 (F_c.keep Kq3 nin0) (E_a.keep Kq3) (Or.inr ⟨(ow27 hw), rfl, hnm⟩) (ow8 hw) (ty := .byte) (v' := (.int (nar .byte (1 : Int32)))) (by decide) rfl (fits_nar_byte _) (g := (mkF m 48 #[.val (.ref a), .val (.ref ca), .val (.int 0), .val (.int 3), .val .null, .val (.ref u3)] [(.int 1), (.ref a)])) rfl rfl (hb hby d4_48)
    refine oT st8 ?_
    have Fw8 : Fld Z h8 a "java/lang/String" "coder" "B" (.int (1 : Int32)) := (F_c.keep Kq3 nin0).same W8
    have O8 := Oq3.wr W8 g_a
    have N8 := Fr.snoc X8 N7 g_a
    have K8 := KK3.wr W8 (Or.inl (List.mem_of_getElem? (i := 0) rfl))
    show oE _ _ _ _ (T8.setTop (mkF m 51 #[.val (.ref a), .val (.ref ca), .val (.int 0), .val (.int 3), .val .null, .val (.ref u3)] []))
    refine oT (fun _ u => XS.aloadN X8.here hx rfl (hb hby d4_51) rfl rfl u) ?_
    refine oT (fun _ u => XS.aload X8.here hx rfl (hb hby d4_52) rfl rfl u) ?_
    obtain ⟨T9, h9, X9, e9, W9, st9⟩ := putF X8 hx hZ hown (host := "") (Or.inl (ow30 hw)) Via.refl e8 ((F_v.keep Kq3 nin0).other W8 (Or.inr (slot_ne (Or.inr (ow26 hw)) (Or.inr (ow27 hw)) (by decide) (t := (.array .byte)) (t' := .byte) (by decide) (by decide)))) ((E_a.keep Kq3).wr W8) (Or.inr ⟨(ow26 hw), rfl, hnm⟩) (ow8 hw) (ty := (.array .byte)) (by decide) rfl rfl (g := (mkF m 54 #[.val (.ref a), .val (.ref ca), .val (.int 0), .val (.int 3), .val .null, .val (.ref u3)] [(.ref u3), (.ref a)])) rfl rfl (hb hby d4_54)
    refine oT st9 ?_
    have Fw9 : Fld Z h9 a "java/lang/String" "value" "[B" (.ref u3) := ((F_v.keep Kq3 nin0).other W8 (Or.inr (slot_ne (Or.inr (ow26 hw)) (Or.inr (ow27 hw)) (by decide) (t := (.array .byte)) (t' := .byte) (by decide) (by decide)))).same W9
    have O9 := O8.wr W9 g_a
    have N9 := Fr.snoc X9 N8 g_a
    have K9 := K8.wr W9 (Or.inl (List.mem_of_getElem? (i := 0) rfl))
    show oE _ _ _ _ (T9.setTop (mkF m 57 #[.val (.ref a), .val (.ref ca), .val (.int 0), .val (.int 3), .val .null, .val (.ref u3)] []))
    refine own_leave X9 (v := none) (fun _ => rfl) ?_ (by decide) (by decide) (fun fs hr => X9.returnOut hx Bd.returns (hb hby d4_57) hr)
    show Q_in4_3 Z a ca cs_ rf_ kc ce0 ce1 ce2 h0 n0 _ T9.heap _
    rw [e9]
    exact ⟨rfl, N9, O9, K9, Or.inr ⟨u3, ku3, (((E_a.keep Kq3).wr W8).wr W9), (Fw8.other W9 (Or.inr (slot_ne (Or.inr (ow27 hw)) (Or.inr (ow26 hw)) (by decide) (t := .byte) (t' := (.array .byte)) (by decide) (by decide)))), Fw9, ((Vx3.other W8 (Ne.symm ne_a_u3)).other W9 (Ne.symm ne_a_u3))⟩⟩
theorem ef_in1_3 (m : MethodId) (a : Addr) (ca : Addr) : entryFrame m #[(.ref a), (.ref ca)] 2 = mkF m 0 #[.val (.ref a), .val (.ref ca)] [] := by first | (simp [entryFrame, mkF, argsToLocals, Value.category]; done) | rfl | (rcases ref_cases hrf with rfl | ⟨q, rfl⟩ <;> rfl)
def Q_in1_3 (Z : State) (a : Addr) (ca : Addr) (cs_ : Int32) (rf_ : Value) (kc : ClassId) (ce0 : Int32) (ce1 : Int32) (ce2 : Int32) (h0 : Heap) (n0 : Nat) (v : Option Value) (h : Heap) (L : List Loc) : Prop := v = none ∧ Fr n0 L ∧ Old Z n0 h ∧ Keep h0 h [a] ∧ own_Tx3 Z h a ce0 ce1 ce2
theorem in1_3 (l : Launch) (Z : State) (a0 : Array Value) (hw : ∀ d ∈ tables_1, d.before a0 Z = true) (ws : List Jvm.Cond) (a : Addr) (ca : Addr) (cs_ : Int32) (rf_ : Value) (kc : ClassId) (ce0 : Int32) (ce1 : Int32) (ce2 : Int32) (h0 : Heap) (n0 : Nat) (O0 : Old Z n0 h0) (g_a : n0 ≤ a) (E_a : Exa Z h0 a "java/lang/String") (F_v : Fld Z h0 a "java/lang/String" "value" "[B" .null) (F_c : Fld Z h0 a "java/lang/String" "coder" "B" (.int (0 : Int32))) (V_c : Arv Z h0 ca kc .char (3 : Int32) [(.int ce0), (.int ce1), (.int ce2)] (.int (0 : Int32))) (ne_ca_a : ca ≠ a) (HS : own_HS Z cs_ rf_) (HE0 : own_Ch ce0) (HE1 : own_Ch ce1) (HE2 : own_Ch ce2) :
    MetFree l oM16 (head1 (Jvm.Cond.code oM16 jdk_42_method_3_code 2 none :: ws) ({ frames := 5, cells := 2, slots := 9, locals := 110 } : Room)) (fun aq_ U => aq_ = #[(.ref a), (.ref ca)] ∧ Z.Warmed39 U.vm ∧ U.heap = h0) (fun _ _ _ _ _ => True) (fun _ U o U' => ∃ v L, o = .returned v ∧ Q_in1_3 Z a ca cs_ rf_ kc ce0 ce1 ce2 h0 n0 v U'.heap L ∧ FrameEnd U o U' L 2 9) := by
  refine MetFree.of_bodySF (plainFor_of_name pn_3) hisR ?_
  intro p e s m args below meth c s₁ Bd hml0 hP hK
  obtain ⟨rfl, hZ, hh⟩ := hP
  have hx := Bd.exec
  have hby := Bd.bytes
  have hml : c.maxLocals = 2 := hml0
  have hown : s.vm.findClass "java/lang/String" = some m.cls := findClass_of_methodNamed Bd.named
  have hnm := (name_of_methodNamed Bd.named Bd.method).1
  have X0 : Stand p l e ({ frames := 5, cells := 2, slots := 9, locals := 110 } : Room) s m #[(.ref a), (.ref ca)] below meth c s₁ [] 0 0 := Stand.of_body Bd
  have e0 : s₁.heap = h0 := by rw [← hh, Bd.state]; rfl
  have N0 := Fr.nil n0
  show oE p.tables e below (own_P s (Q_in1_3 Z a ca cs_ rf_ kc ce0 ce1 ce2 h0 n0) 2 9) _
  refine own_cast (ef_in1_3 m a ca) ?_
  have K0 := Keep.refl h0 [a]
  show oE _ _ _ _ (s₁.setTop (mkF m 0 #[.val (.ref a), .val (.ref ca)] []))
  refine oT (fun _ u => XS.aloadN X0.here hx rfl (hb hby d3_0) rfl rfl u) ?_
  refine oT (fun _ u => XS.aloadN X0.here hx rfl (hb hby d3_1) rfl rfl u) ?_
  refine oT (fun _ u => XS.iconst X0.here hx rfl (hb hby d3_2) u) ?_
  refine oT (fun _ u => XS.aloadN X0.here hx rfl (hb hby d3_3) rfl rfl u) ?_
  obtain ⟨cl1, Ar1, q1, S1, M1, -, -⟩ := id V_c
  refine oT (fun _ u => X0.arraylength hx (by rw [e0]; exact Ar1.1) (State.isArrayOf_alike hZ.alike Ar1.2.1) (g := (mkF m 4 #[.val (.ref a), .val (.ref ca)] [(.ref ca), (.int 0), (.ref ca), (.ref a)])) rfl rfl (hb hby d3_4) _ u) ?_
  rw [len_of S1 M1]
  show oE _ _ _ _ (s₁.setTop (mkF m 5 #[.val (.ref a), .val (.ref ca)] [(.int 3), (.int 0), (.ref ca), (.ref a)]))
  refine oT (fun _ u => XS.aconstNull X0.here hx rfl (hb hby d3_5) u) ?_
  show oE _ _ _ _ (s₁.setTop (mkF m 6 #[.val (.ref a), .val (.ref ca)] [.null, (.int 3), (.int 0), (.ref ca), (.ref a)]))
  obtain ⟨_, _, ⟨T2, L2, k2, n2⟩, -, X2, ⟨Lc2, hQ2, l2, y2, z2⟩, st2⟩ := X0.specialBack hx (y := oM15) rfl hown (mvT hZ (ow17 hw)) (mvT hZ (ow18 hw)) (mvT hZ (ow20 hw)) (by decide) (backOf (W := 0) (in4_3 l Z a0 hw [] a ca cs_ rf_ kc ce0 ce1 ce2 h0 n0 O0 g_a E_a F_v F_c V_c ne_ca_a HS HE0 HE1 HE2) hZ (ow20 hw) (ow9 hw) (by decide) (by decide)) (g := (mkF m 6 #[.val (.ref a), .val (.ref ca)] [.null, (.int 3), (.int 0), (.ref ca), (.ref a)])) rfl (by rw [hml]; rfl) (Steps.refl _) (a := a) (argsL := [(.ref ca), (.int (0 : Int32)), (.int (3 : Int32)), .null]) (rest := []) (lenOf pd_9 rfl) rfl (by show 2 * 0 + _ ≤ _; exact Nat.le_of_eq rfl) (hb hby d3_6) (fun _ _ => ⟨rfl, e0, (own_le rfl), (own_le rfl)⟩)
  dsimp only [Pt.U, Pt.locs, Pt.cells, Pt.slots] at X2 l2 y2 z2 st2 hQ2
  subst y2 z2
  obtain ⟨rfl, N2q, Oq2, Kq2, HT2⟩ := hQ2
  have N2 := own_fr l2 N0 N2q
  have KK2 := K0.trans Kq2 (allS (Or.inl (List.mem_of_getElem? (i := 0) rfl)) all0)
  refine own_tr st2 ?_
  show oE _ _ _ _ (T2.setTop (mkF m 9 #[.val (.ref a), .val (.ref ca)] []))
  refine own_leave X2 (v := none) (fun _ => rfl) ?_ (by decide) (by decide) (fun fs hr => X2.returnOut hx Bd.returns (hb hby d3_9) hr)
  show Q_in1_3 Z a ca cs_ rf_ kc ce0 ce1 ce2 h0 n0 _ T2.heap _
  exact ⟨rfl, N2, Oq2, KK2, HT2⟩
theorem ef_cp2_4 (m : MethodId) (ca : Addr) (da : Addr) (kc : ClassId) (kd : ClassId) (ce0 : Int32) (ce1 : Int32) (ce2 : Int32) (ce3 : Int32) : entryFrame m #[(.ref ca), (.int (0 : Int32)), (.ref da), (.int (0 : Int32)), (.int (4 : Int32))] 7 = mkF m 0 #[.val (.ref ca), .val (.int (0 : Int32)), .val (.ref da), .val (.int (0 : Int32)), .val (.int (4 : Int32)), .unset, .unset] [] := by first | (simp [entryFrame, mkF, argsToLocals, Value.category]; done) | rfl | (rcases ref_cases hrf with rfl | ⟨q, rfl⟩ <;> rfl)
def Q_cp2_4 (Z : State) (ca : Addr) (da : Addr) (kc : ClassId) (kd : ClassId) (ce0 : Int32) (ce1 : Int32) (ce2 : Int32) (ce3 : Int32) (h0 : Heap) (n0 : Nat) (v : Option Value) (h : Heap) (L : List Loc) : Prop := (v = some (.int (4 : Int32)) ∧ Fr n0 L ∧ Old Z n0 h ∧ Keep h0 h [da] ∧ Arv Z h da kd .byte (4 : Int32) [(.int (ce0.toInt8.toInt32)), (.int (ce1.toInt8.toInt32)), (.int (ce2.toInt8.toInt32)), (.int (ce3.toInt8.toInt32))] (.int (0 : Int32)) ∧ ¬ (255 : Int32) < ce0 ∧ ¬ (255 : Int32) < ce1 ∧ ¬ (255 : Int32) < ce2 ∧ ¬ (255 : Int32) < ce3) ∨ (v = some (.int (0 : Int32)) ∧ Fr n0 L ∧ Old Z n0 h ∧ Keep h0 h [da] ∧ (255 : Int32) < ce0) ∨ (v = some (.int (1 : Int32)) ∧ Fr n0 L ∧ Old Z n0 h ∧ Keep h0 h [da] ∧ (255 : Int32) < ce1) ∨ (v = some (.int (2 : Int32)) ∧ Fr n0 L ∧ Old Z n0 h ∧ Keep h0 h [da] ∧ (255 : Int32) < ce2) ∨ (v = some (.int (3 : Int32)) ∧ Fr n0 L ∧ Old Z n0 h ∧ Keep h0 h [da] ∧ (255 : Int32) < ce3)
theorem cp2_4 (l : Launch) (Z : State) (a0 : Array Value) (hw : ∀ d ∈ tables_1, d.before a0 Z = true) (ws : List Jvm.Cond) (ca : Addr) (da : Addr) (kc : ClassId) (kd : ClassId) (ce0 : Int32) (ce1 : Int32) (ce2 : Int32) (ce3 : Int32) (h0 : Heap) (n0 : Nat) (O0 : Old Z n0 h0) (V_c : Arv Z h0 ca kc .char (4 : Int32) [(.int ce0), (.int ce1), (.int ce2), (.int ce3)] (.int (0 : Int32))) (V_d : Arv Z h0 da kd .byte (4 : Int32) [(.int (0 : Int32)), (.int (0 : Int32)), (.int (0 : Int32)), (.int (0 : Int32))] (.int (0 : Int32))) (g_da : n0 ≤ da) (ne_ca_da : ca ≠ da) :
    MetFree l oM13 (head1 (Jvm.Cond.code oM13 jdk_52_method_21_code 7 (some .int) :: ws) ({ frames := 0, cells := 0, slots := 0, locals := 0 } : Room)) (fun aq_ U => aq_ = #[(.ref ca), (.int (0 : Int32)), (.ref da), (.int (0 : Int32)), (.int (4 : Int32))] ∧ Z.Warmed39 U.vm ∧ U.heap = h0) (fun _ _ _ _ _ => True) (fun _ U o U' => ∃ v L, o = .returned v ∧ Q_cp2_4 Z ca da kc kd ce0 ce1 ce2 ce3 h0 n0 v U'.heap L ∧ FrameEnd U o U' L 0 0) := by
  refine MetFree.of_bodySF (plainFor_of_name pn_10) hisR ?_
  intro p e s m args below meth c s₁ Bd hml0 hP hK
  obtain ⟨rfl, hZ, hh⟩ := hP
  have hx := Bd.exec
  have hby := Bd.bytes
  have hml : c.maxLocals = 7 := hml0
  have hown : s.vm.findClass "java/lang/StringUTF16" = some m.cls := findClass_of_methodNamed Bd.named
  have hnm := (name_of_methodNamed Bd.named Bd.method).1
  have X0 : Stand p l e ({ frames := 0, cells := 0, slots := 0, locals := 0 } : Room) s m #[(.ref ca), (.int (0 : Int32)), (.ref da), (.int (0 : Int32)), (.int (4 : Int32))] below meth c s₁ [] 0 0 := Stand.of_body Bd
  have e0 : s₁.heap = h0 := by rw [← hh, Bd.state]; rfl
  have N0 := Fr.nil n0
  show oE p.tables e below (own_P s (Q_cp2_4 Z ca da kc kd ce0 ce1 ce2 ce3 h0 n0) 0 0) _
  refine own_cast (ef_cp2_4 m ca da kc kd ce0 ce1 ce2 ce3) ?_
  have K0 := Keep.refl h0 [da]
  show oE _ _ _ _ (s₁.setTop (mkF m 0 #[.val (.ref ca), .val (.int 0), .val (.ref da), .val (.int 0), .val (.int 4), .unset, .unset] []))
  refine oT (fun _ u => XS.iconst X0.here hx rfl (hb hby d10_0) u) ?_
  refine oT (fun _ u => XS.istore X0.here hx rfl (hb hby d10_1) rfl (l' := #[.val (.ref ca), .val (.int (0 : Int32)), .val (.ref da), .val (.int (0 : Int32)), .val (.int (4 : Int32)), .val (.int (0 : Int32)), .unset]) rfl u) ?_
  refine oT (fun _ u => XS.iload X0.here hx rfl (hb hby d10_3) rfl u) ?_
  refine oT (fun _ u => XS.iload X0.here hx rfl (hb hby d10_5) rfl u) ?_
  refine oT (fun _ u => XS.icmpNo X0.here hx rfl (hb hby d10_7) rfl (tlt (by decide)).2.1 u) ?_
  show oE _ _ _ _ (s₁.setTop (mkF m 10 #[.val (.ref ca), .val (.int 0), .val (.ref da), .val (.int 0), .val (.int 4), .val (.int 0), .unset] []))
  refine oT (fun _ u => XS.aloadN X0.here hx rfl (hb hby d10_10) rfl rfl u) ?_
  refine oT (fun _ u => XS.iloadN X0.here hx rfl (hb hby d10_11) rfl u) ?_
  obtain ⟨cl1, Ar1, q1, S1, M1, H1, G1⟩ := id V_c
  have hin1 : ¬ ((0 : Int32) < 0 ∨ cl1.slots.size ≤ ((0 : Int32)).toNatClampNeg) := inb_of S1 ⟨by decide, by decide⟩
  have hat1 : cl1.slots[((0 : Int32)).toNatClampNeg]? = some (.int ce0) := Has.at H1 hin1 rfl
  refine oT (fun _ u => X0.caload hx (j := (0 : Int32)) (v := (.int ce0)) (by rw [e0]; exact Ar1.1) (State.isArrayOf_alike hZ.alike Ar1.2.1) Ar1.2.2 hin1 hat1 (g := (mkF m 12 #[.val (.ref ca), .val (.int 0), .val (.ref da), .val (.int 0), .val (.int 4), .val (.int 0), .unset] [(.int 0), (.ref ca)])) rfl rfl (hb hby d10_12) _ u) ?_
  show oE _ _ _ _ (s₁.setTop (mkF m 13 #[.val (.ref ca), .val (.int 0), .val (.ref da), .val (.int 0), .val (.int 4), .val (.int 0), .unset] [(.int ce0)]))
  refine oT (fun _ u => XS.istore X0.here hx rfl (hb hby d10_13) rfl (l' := #[.val (.ref ca), .val (.int (0 : Int32)), .val (.ref da), .val (.int (0 : Int32)), .val (.int (4 : Int32)), .val (.int (0 : Int32)), .val (.int ce0)]) rfl u) ?_
  refine oT (fun _ u => XS.iload X0.here hx rfl (hb hby d10_15) rfl u) ?_
  refine oT (fun _ u => XS.sipush X0.here hx rfl (hb hby d10_17) u) ?_
  by_cases hc20_2 : (255 : Int32) < ce0
  · -- pc 20: (255 : Int32) < ce0
    refine oT (fun _ u => XS.icmpNo X0.here hx rfl (hb hby d10_20) rfl (tlt hc20_2).2.2.2 u) ?_
    show oE _ _ _ _ (s₁.setTop (mkF m 23 #[.val (.ref ca), .val (.int 0), .val (.ref da), .val (.int 0), .val (.int 4), .val (.int 0), .val (.int ce0)] []))
    refine oT (fun _ u => XS.iload X0.here hx rfl (hb hby d10_23) rfl u) ?_
    refine own_leave X0 (v := some (.int (0 : Int32))) (fun h => by rw [Bd.returns] at h; cases h) ?_ (by decide) (by decide) (fun fs hr => retOut X0 hx Bd.returns rfl (Or.inl ⟨rfl, Or.inl rfl, _, rfl⟩) (hb hby d10_25) hr)
    show Q_cp2_4 Z ca da kc kd ce0 ce1 ce2 ce3 h0 n0 _ s₁.heap _
    rw [e0]
    exact Or.inr (Or.inl ⟨rfl, N0, O0, K0, hc20_2⟩)
  · -- pc 20: not (255 : Int32) < ce0
    refine oT (fun _ u => XS.icmpYes X0.here hx rfl (pc0 := 20) (pc' := 26) rfl (hb hby d10_20) rfl (flt hc20_2).2.2.2 (by decide) (by decide) u) ?_
    show oE _ _ _ _ (s₁.setTop (mkF m 26 #[.val (.ref ca), .val (.int 0), .val (.ref da), .val (.int 0), .val (.int 4), .val (.int 0), .val (.int ce0)] []))
    refine oT (fun _ u => XS.aloadN X0.here hx rfl (hb hby d10_26) rfl rfl u) ?_
    refine oT (fun _ u => XS.iloadN X0.here hx rfl (hb hby d10_27) rfl u) ?_
    refine oT (fun _ u => XS.iload X0.here hx rfl (hb hby d10_28) rfl u) ?_
    refine oT (fun _ u => XS.i2b X0.here hx rfl (hb hby d10_30) rfl u) ?_
    obtain ⟨cl3, Ar3, q3, S3, M3, H3, G3⟩ := id V_d
    have hin3 : ¬ ((0 : Int32) < 0 ∨ cl3.slots.size ≤ ((0 : Int32)).toNatClampNeg) := inb_of S3 ⟨by decide, by decide⟩
    obtain ⟨T3, h3, X3, e3, W3, st3⟩ := stB X0 hx hZ e0 Ar3 (j := (0 : Int32)) hin3 (g := (mkF m 31 #[.val (.ref ca), .val (.int 0), .val (.ref da), .val (.int 0), .val (.int 4), .val (.int 0), .val (.int ce0)] [(.int (ce0.toInt8.toInt32)), (.int 0), (.ref da)])) rfl rfl (hb hby d10_31)
    have Vs3 : Arv Z h3 da kd .byte (4 : Int32) [(.int (nar .byte (ce0.toInt8.toInt32))), (.int (0 : Int32)), (.int (0 : Int32)), (.int (0 : Int32))] (.int (0 : Int32)) := Arv.set Ar3 q3 S3 M3 H3 G3 (fits_nar_byte _) W3 0 rfl (own_lt rfl)
    rw [show (nar .byte (ce0.toInt8.toInt32)) = (ce0.toInt8.toInt32) from (own_nb _)] at Vs3
    refine oT st3 ?_
    have O3 := O0.wr W3 g_da
    have N3 := Fr.snoc X3 N0 g_da
    have K3 := K0.wr W3 (Or.inl (List.mem_of_getElem? (i := 0) rfl))
    show oE _ _ _ _ (T3.setTop (mkF m 32 #[.val (.ref ca), .val (.int 0), .val (.ref da), .val (.int 0), .val (.int 4), .val (.int 0), .val (.int ce0)] []))
    refine oT (fun _ u => XS.iinc X3.here hx rfl (hb hby d10_32) rfl (l' := #[.val (.ref ca), .val (.int (1 : Int32)), .val (.ref da), .val (.int (0 : Int32)), .val (.int (4 : Int32)), .val (.int (0 : Int32)), .val (.int ce0)]) rfl u) ?_
    show oE _ _ _ _ (T3.setTop (mkF m 35 #[.val (.ref ca), .val (.int 1), .val (.ref da), .val (.int 0), .val (.int 4), .val (.int 0), .val (.int ce0)] []))
    refine oT (fun _ u => XS.iinc X3.here hx rfl (hb hby d10_35) rfl (l' := #[.val (.ref ca), .val (.int (1 : Int32)), .val (.ref da), .val (.int (1 : Int32)), .val (.int (4 : Int32)), .val (.int (0 : Int32)), .val (.int ce0)]) rfl u) ?_
    show oE _ _ _ _ (T3.setTop (mkF m 38 #[.val (.ref ca), .val (.int 1), .val (.ref da), .val (.int 1), .val (.int 4), .val (.int 0), .val (.int ce0)] []))
    refine oT (fun _ u => XS.iinc X3.here hx rfl (hb hby d10_38) rfl (l' := #[.val (.ref ca), .val (.int (1 : Int32)), .val (.ref da), .val (.int (1 : Int32)), .val (.int (4 : Int32)), .val (.int (1 : Int32)), .val (.int ce0)]) rfl u) ?_
    show oE _ _ _ _ (T3.setTop (mkF m 41 #[.val (.ref ca), .val (.int 1), .val (.ref da), .val (.int 1), .val (.int 4), .val (.int 1), .val (.int ce0)] []))
    refine oT (fun _ u => XS.goto X3.here hx rfl (pc0 := 41) (pc' := 3) rfl (hb hby d10_41) (by decide) (by decide) u) ?_
    refine oT (fun _ u => XS.iload X3.here hx rfl (hb hby d10_3) rfl u) ?_
    refine oT (fun _ u => XS.iload X3.here hx rfl (hb hby d10_5) rfl u) ?_
    refine oT (fun _ u => XS.icmpNo X3.here hx rfl (hb hby d10_7) rfl (tlt (by decide)).2.1 u) ?_
    show oE _ _ _ _ (T3.setTop (mkF m 10 #[.val (.ref ca), .val (.int 1), .val (.ref da), .val (.int 1), .val (.int 4), .val (.int 1), .val (.int ce0)] []))
    refine oT (fun _ u => XS.aloadN X3.here hx rfl (hb hby d10_10) rfl rfl u) ?_
    refine oT (fun _ u => XS.iloadN X3.here hx rfl (hb hby d10_11) rfl u) ?_
    obtain ⟨cl4, Ar4, q4, S4, M4, H4, G4⟩ := id (V_c.other W3 ne_ca_da)
    have hin4 : ¬ ((1 : Int32) < 0 ∨ cl4.slots.size ≤ ((1 : Int32)).toNatClampNeg) := inb_of S4 ⟨by decide, by decide⟩
    have hat4 : cl4.slots[((1 : Int32)).toNatClampNeg]? = some (.int ce1) := Has.at H4 hin4 rfl
    refine oT (fun _ u => X3.caload hx (j := (1 : Int32)) (v := (.int ce1)) (by rw [e3]; exact Ar4.1) (State.isArrayOf_alike hZ.alike Ar4.2.1) Ar4.2.2 hin4 hat4 (g := (mkF m 12 #[.val (.ref ca), .val (.int 1), .val (.ref da), .val (.int 1), .val (.int 4), .val (.int 1), .val (.int ce0)] [(.int 1), (.ref ca)])) rfl rfl (hb hby d10_12) _ u) ?_
    show oE _ _ _ _ (T3.setTop (mkF m 13 #[.val (.ref ca), .val (.int 1), .val (.ref da), .val (.int 1), .val (.int 4), .val (.int 1), .val (.int ce0)] [(.int ce1)]))
    refine oT (fun _ u => XS.istore X3.here hx rfl (hb hby d10_13) rfl (l' := #[.val (.ref ca), .val (.int (1 : Int32)), .val (.ref da), .val (.int (1 : Int32)), .val (.int (4 : Int32)), .val (.int (1 : Int32)), .val (.int ce1)]) rfl u) ?_
    refine oT (fun _ u => XS.iload X3.here hx rfl (hb hby d10_15) rfl u) ?_
    refine oT (fun _ u => XS.sipush X3.here hx rfl (hb hby d10_17) u) ?_
    by_cases hc20_5 : (255 : Int32) < ce1
    · -- pc 20: (255 : Int32) < ce1
      refine oT (fun _ u => XS.icmpNo X3.here hx rfl (hb hby d10_20) rfl (tlt hc20_5).2.2.2 u) ?_
      show oE _ _ _ _ (T3.setTop (mkF m 23 #[.val (.ref ca), .val (.int 1), .val (.ref da), .val (.int 1), .val (.int 4), .val (.int 1), .val (.int ce1)] []))
      refine oT (fun _ u => XS.iload X3.here hx rfl (hb hby d10_23) rfl u) ?_
      refine own_leave X3 (v := some (.int (1 : Int32))) (fun h => by rw [Bd.returns] at h; cases h) ?_ (by decide) (by decide) (fun fs hr => retOut X3 hx Bd.returns rfl (Or.inl ⟨rfl, Or.inl rfl, _, rfl⟩) (hb hby d10_25) hr)
      show Q_cp2_4 Z ca da kc kd ce0 ce1 ce2 ce3 h0 n0 _ T3.heap _
      rw [e3]
      exact Or.inr (Or.inr (Or.inl ⟨rfl, N3, O3, K3, hc20_5⟩))
    · -- pc 20: not (255 : Int32) < ce1
      refine oT (fun _ u => XS.icmpYes X3.here hx rfl (pc0 := 20) (pc' := 26) rfl (hb hby d10_20) rfl (flt hc20_5).2.2.2 (by decide) (by decide) u) ?_
      show oE _ _ _ _ (T3.setTop (mkF m 26 #[.val (.ref ca), .val (.int 1), .val (.ref da), .val (.int 1), .val (.int 4), .val (.int 1), .val (.int ce1)] []))
      refine oT (fun _ u => XS.aloadN X3.here hx rfl (hb hby d10_26) rfl rfl u) ?_
      refine oT (fun _ u => XS.iloadN X3.here hx rfl (hb hby d10_27) rfl u) ?_
      refine oT (fun _ u => XS.iload X3.here hx rfl (hb hby d10_28) rfl u) ?_
      refine oT (fun _ u => XS.i2b X3.here hx rfl (hb hby d10_30) rfl u) ?_
      obtain ⟨cl6, Ar6, q6, S6, M6, H6, G6⟩ := id Vs3
      have hin6 : ¬ ((1 : Int32) < 0 ∨ cl6.slots.size ≤ ((1 : Int32)).toNatClampNeg) := inb_of S6 ⟨by decide, by decide⟩
      obtain ⟨T6, h6, X6, e6, W6, st6⟩ := stB X3 hx hZ e3 Ar6 (j := (1 : Int32)) hin6 (g := (mkF m 31 #[.val (.ref ca), .val (.int 1), .val (.ref da), .val (.int 1), .val (.int 4), .val (.int 1), .val (.int ce1)] [(.int (ce1.toInt8.toInt32)), (.int 1), (.ref da)])) rfl rfl (hb hby d10_31)
      have Vs6 : Arv Z h6 da kd .byte (4 : Int32) [(.int (ce0.toInt8.toInt32)), (.int (nar .byte (ce1.toInt8.toInt32))), (.int (0 : Int32)), (.int (0 : Int32))] (.int (0 : Int32)) := Arv.set Ar6 q6 S6 M6 H6 G6 (fits_nar_byte _) W6 1 rfl (own_lt rfl)
      rw [show (nar .byte (ce1.toInt8.toInt32)) = (ce1.toInt8.toInt32) from (own_nb _)] at Vs6
      refine oT st6 ?_
      have O6 := O3.wr W6 g_da
      have N6 := Fr.snoc X6 N3 g_da
      have K6 := K3.wr W6 (Or.inl (List.mem_of_getElem? (i := 0) rfl))
      show oE _ _ _ _ (T6.setTop (mkF m 32 #[.val (.ref ca), .val (.int 1), .val (.ref da), .val (.int 1), .val (.int 4), .val (.int 1), .val (.int ce1)] []))
      refine oT (fun _ u => XS.iinc X6.here hx rfl (hb hby d10_32) rfl (l' := #[.val (.ref ca), .val (.int (2 : Int32)), .val (.ref da), .val (.int (1 : Int32)), .val (.int (4 : Int32)), .val (.int (1 : Int32)), .val (.int ce1)]) rfl u) ?_
      show oE _ _ _ _ (T6.setTop (mkF m 35 #[.val (.ref ca), .val (.int 2), .val (.ref da), .val (.int 1), .val (.int 4), .val (.int 1), .val (.int ce1)] []))
      refine oT (fun _ u => XS.iinc X6.here hx rfl (hb hby d10_35) rfl (l' := #[.val (.ref ca), .val (.int (2 : Int32)), .val (.ref da), .val (.int (2 : Int32)), .val (.int (4 : Int32)), .val (.int (1 : Int32)), .val (.int ce1)]) rfl u) ?_
      show oE _ _ _ _ (T6.setTop (mkF m 38 #[.val (.ref ca), .val (.int 2), .val (.ref da), .val (.int 2), .val (.int 4), .val (.int 1), .val (.int ce1)] []))
      refine oT (fun _ u => XS.iinc X6.here hx rfl (hb hby d10_38) rfl (l' := #[.val (.ref ca), .val (.int (2 : Int32)), .val (.ref da), .val (.int (2 : Int32)), .val (.int (4 : Int32)), .val (.int (2 : Int32)), .val (.int ce1)]) rfl u) ?_
      show oE _ _ _ _ (T6.setTop (mkF m 41 #[.val (.ref ca), .val (.int 2), .val (.ref da), .val (.int 2), .val (.int 4), .val (.int 2), .val (.int ce1)] []))
      refine oT (fun _ u => XS.goto X6.here hx rfl (pc0 := 41) (pc' := 3) rfl (hb hby d10_41) (by decide) (by decide) u) ?_
      refine oT (fun _ u => XS.iload X6.here hx rfl (hb hby d10_3) rfl u) ?_
      refine oT (fun _ u => XS.iload X6.here hx rfl (hb hby d10_5) rfl u) ?_
      refine oT (fun _ u => XS.icmpNo X6.here hx rfl (hb hby d10_7) rfl (tlt (by decide)).2.1 u) ?_
      show oE _ _ _ _ (T6.setTop (mkF m 10 #[.val (.ref ca), .val (.int 2), .val (.ref da), .val (.int 2), .val (.int 4), .val (.int 2), .val (.int ce1)] []))
      refine oT (fun _ u => XS.aloadN X6.here hx rfl (hb hby d10_10) rfl rfl u) ?_
      refine oT (fun _ u => XS.iloadN X6.here hx rfl (hb hby d10_11) rfl u) ?_
      obtain ⟨cl7, Ar7, q7, S7, M7, H7, G7⟩ := id ((V_c.other W3 ne_ca_da).other W6 ne_ca_da)
      have hin7 : ¬ ((2 : Int32) < 0 ∨ cl7.slots.size ≤ ((2 : Int32)).toNatClampNeg) := inb_of S7 ⟨by decide, by decide⟩
      have hat7 : cl7.slots[((2 : Int32)).toNatClampNeg]? = some (.int ce2) := Has.at H7 hin7 rfl
      refine oT (fun _ u => X6.caload hx (j := (2 : Int32)) (v := (.int ce2)) (by rw [e6]; exact Ar7.1) (State.isArrayOf_alike hZ.alike Ar7.2.1) Ar7.2.2 hin7 hat7 (g := (mkF m 12 #[.val (.ref ca), .val (.int 2), .val (.ref da), .val (.int 2), .val (.int 4), .val (.int 2), .val (.int ce1)] [(.int 2), (.ref ca)])) rfl rfl (hb hby d10_12) _ u) ?_
      show oE _ _ _ _ (T6.setTop (mkF m 13 #[.val (.ref ca), .val (.int 2), .val (.ref da), .val (.int 2), .val (.int 4), .val (.int 2), .val (.int ce1)] [(.int ce2)]))
      refine oT (fun _ u => XS.istore X6.here hx rfl (hb hby d10_13) rfl (l' := #[.val (.ref ca), .val (.int (2 : Int32)), .val (.ref da), .val (.int (2 : Int32)), .val (.int (4 : Int32)), .val (.int (2 : Int32)), .val (.int ce2)]) rfl u) ?_
      refine oT (fun _ u => XS.iload X6.here hx rfl (hb hby d10_15) rfl u) ?_
      refine oT (fun _ u => XS.sipush X6.here hx rfl (hb hby d10_17) u) ?_
      by_cases hc20_8 : (255 : Int32) < ce2
      · -- pc 20: (255 : Int32) < ce2
        refine oT (fun _ u => XS.icmpNo X6.here hx rfl (hb hby d10_20) rfl (tlt hc20_8).2.2.2 u) ?_
        show oE _ _ _ _ (T6.setTop (mkF m 23 #[.val (.ref ca), .val (.int 2), .val (.ref da), .val (.int 2), .val (.int 4), .val (.int 2), .val (.int ce2)] []))
        refine oT (fun _ u => XS.iload X6.here hx rfl (hb hby d10_23) rfl u) ?_
        refine own_leave X6 (v := some (.int (2 : Int32))) (fun h => by rw [Bd.returns] at h; cases h) ?_ (by decide) (by decide) (fun fs hr => retOut X6 hx Bd.returns rfl (Or.inl ⟨rfl, Or.inl rfl, _, rfl⟩) (hb hby d10_25) hr)
        show Q_cp2_4 Z ca da kc kd ce0 ce1 ce2 ce3 h0 n0 _ T6.heap _
        rw [e6]
        exact Or.inr (Or.inr (Or.inr (Or.inl ⟨rfl, N6, O6, K6, hc20_8⟩)))
      · -- pc 20: not (255 : Int32) < ce2
        refine oT (fun _ u => XS.icmpYes X6.here hx rfl (pc0 := 20) (pc' := 26) rfl (hb hby d10_20) rfl (flt hc20_8).2.2.2 (by decide) (by decide) u) ?_
        show oE _ _ _ _ (T6.setTop (mkF m 26 #[.val (.ref ca), .val (.int 2), .val (.ref da), .val (.int 2), .val (.int 4), .val (.int 2), .val (.int ce2)] []))
        refine oT (fun _ u => XS.aloadN X6.here hx rfl (hb hby d10_26) rfl rfl u) ?_
        refine oT (fun _ u => XS.iloadN X6.here hx rfl (hb hby d10_27) rfl u) ?_
        refine oT (fun _ u => XS.iload X6.here hx rfl (hb hby d10_28) rfl u) ?_
        refine oT (fun _ u => XS.i2b X6.here hx rfl (hb hby d10_30) rfl u) ?_
        obtain ⟨cl9, Ar9, q9, S9, M9, H9, G9⟩ := id Vs6
        have hin9 : ¬ ((2 : Int32) < 0 ∨ cl9.slots.size ≤ ((2 : Int32)).toNatClampNeg) := inb_of S9 ⟨by decide, by decide⟩
        obtain ⟨T9, h9, X9, e9, W9, st9⟩ := stB X6 hx hZ e6 Ar9 (j := (2 : Int32)) hin9 (g := (mkF m 31 #[.val (.ref ca), .val (.int 2), .val (.ref da), .val (.int 2), .val (.int 4), .val (.int 2), .val (.int ce2)] [(.int (ce2.toInt8.toInt32)), (.int 2), (.ref da)])) rfl rfl (hb hby d10_31)
        have Vs9 : Arv Z h9 da kd .byte (4 : Int32) [(.int (ce0.toInt8.toInt32)), (.int (ce1.toInt8.toInt32)), (.int (nar .byte (ce2.toInt8.toInt32))), (.int (0 : Int32))] (.int (0 : Int32)) := Arv.set Ar9 q9 S9 M9 H9 G9 (fits_nar_byte _) W9 2 rfl (own_lt rfl)
        rw [show (nar .byte (ce2.toInt8.toInt32)) = (ce2.toInt8.toInt32) from (own_nb _)] at Vs9
        refine oT st9 ?_
        have O9 := O6.wr W9 g_da
        have N9 := Fr.snoc X9 N6 g_da
        have K9 := K6.wr W9 (Or.inl (List.mem_of_getElem? (i := 0) rfl))
        show oE _ _ _ _ (T9.setTop (mkF m 32 #[.val (.ref ca), .val (.int 2), .val (.ref da), .val (.int 2), .val (.int 4), .val (.int 2), .val (.int ce2)] []))
        refine oT (fun _ u => XS.iinc X9.here hx rfl (hb hby d10_32) rfl (l' := #[.val (.ref ca), .val (.int (3 : Int32)), .val (.ref da), .val (.int (2 : Int32)), .val (.int (4 : Int32)), .val (.int (2 : Int32)), .val (.int ce2)]) rfl u) ?_
        show oE _ _ _ _ (T9.setTop (mkF m 35 #[.val (.ref ca), .val (.int 3), .val (.ref da), .val (.int 2), .val (.int 4), .val (.int 2), .val (.int ce2)] []))
        refine oT (fun _ u => XS.iinc X9.here hx rfl (hb hby d10_35) rfl (l' := #[.val (.ref ca), .val (.int (3 : Int32)), .val (.ref da), .val (.int (3 : Int32)), .val (.int (4 : Int32)), .val (.int (2 : Int32)), .val (.int ce2)]) rfl u) ?_
        show oE _ _ _ _ (T9.setTop (mkF m 38 #[.val (.ref ca), .val (.int 3), .val (.ref da), .val (.int 3), .val (.int 4), .val (.int 2), .val (.int ce2)] []))
        refine oT (fun _ u => XS.iinc X9.here hx rfl (hb hby d10_38) rfl (l' := #[.val (.ref ca), .val (.int (3 : Int32)), .val (.ref da), .val (.int (3 : Int32)), .val (.int (4 : Int32)), .val (.int (3 : Int32)), .val (.int ce2)]) rfl u) ?_
        show oE _ _ _ _ (T9.setTop (mkF m 41 #[.val (.ref ca), .val (.int 3), .val (.ref da), .val (.int 3), .val (.int 4), .val (.int 3), .val (.int ce2)] []))
        refine oT (fun _ u => XS.goto X9.here hx rfl (pc0 := 41) (pc' := 3) rfl (hb hby d10_41) (by decide) (by decide) u) ?_
        refine oT (fun _ u => XS.iload X9.here hx rfl (hb hby d10_3) rfl u) ?_
        refine oT (fun _ u => XS.iload X9.here hx rfl (hb hby d10_5) rfl u) ?_
        refine oT (fun _ u => XS.icmpNo X9.here hx rfl (hb hby d10_7) rfl (tlt (by decide)).2.1 u) ?_
        show oE _ _ _ _ (T9.setTop (mkF m 10 #[.val (.ref ca), .val (.int 3), .val (.ref da), .val (.int 3), .val (.int 4), .val (.int 3), .val (.int ce2)] []))
        refine oT (fun _ u => XS.aloadN X9.here hx rfl (hb hby d10_10) rfl rfl u) ?_
        refine oT (fun _ u => XS.iloadN X9.here hx rfl (hb hby d10_11) rfl u) ?_
        obtain ⟨cl10, Ar10, q10, S10, M10, H10, G10⟩ := id (((V_c.other W3 ne_ca_da).other W6 ne_ca_da).other W9 ne_ca_da)
        have hin10 : ¬ ((3 : Int32) < 0 ∨ cl10.slots.size ≤ ((3 : Int32)).toNatClampNeg) := inb_of S10 ⟨by decide, by decide⟩
        have hat10 : cl10.slots[((3 : Int32)).toNatClampNeg]? = some (.int ce3) := Has.at H10 hin10 rfl
        refine oT (fun _ u => X9.caload hx (j := (3 : Int32)) (v := (.int ce3)) (by rw [e9]; exact Ar10.1) (State.isArrayOf_alike hZ.alike Ar10.2.1) Ar10.2.2 hin10 hat10 (g := (mkF m 12 #[.val (.ref ca), .val (.int 3), .val (.ref da), .val (.int 3), .val (.int 4), .val (.int 3), .val (.int ce2)] [(.int 3), (.ref ca)])) rfl rfl (hb hby d10_12) _ u) ?_
        show oE _ _ _ _ (T9.setTop (mkF m 13 #[.val (.ref ca), .val (.int 3), .val (.ref da), .val (.int 3), .val (.int 4), .val (.int 3), .val (.int ce2)] [(.int ce3)]))
        refine oT (fun _ u => XS.istore X9.here hx rfl (hb hby d10_13) rfl (l' := #[.val (.ref ca), .val (.int (3 : Int32)), .val (.ref da), .val (.int (3 : Int32)), .val (.int (4 : Int32)), .val (.int (3 : Int32)), .val (.int ce3)]) rfl u) ?_
        refine oT (fun _ u => XS.iload X9.here hx rfl (hb hby d10_15) rfl u) ?_
        refine oT (fun _ u => XS.sipush X9.here hx rfl (hb hby d10_17) u) ?_
        by_cases hc20_11 : (255 : Int32) < ce3
        · -- pc 20: (255 : Int32) < ce3
          refine oT (fun _ u => XS.icmpNo X9.here hx rfl (hb hby d10_20) rfl (tlt hc20_11).2.2.2 u) ?_
          show oE _ _ _ _ (T9.setTop (mkF m 23 #[.val (.ref ca), .val (.int 3), .val (.ref da), .val (.int 3), .val (.int 4), .val (.int 3), .val (.int ce3)] []))
          refine oT (fun _ u => XS.iload X9.here hx rfl (hb hby d10_23) rfl u) ?_
          refine own_leave X9 (v := some (.int (3 : Int32))) (fun h => by rw [Bd.returns] at h; cases h) ?_ (by decide) (by decide) (fun fs hr => retOut X9 hx Bd.returns rfl (Or.inl ⟨rfl, Or.inl rfl, _, rfl⟩) (hb hby d10_25) hr)
          show Q_cp2_4 Z ca da kc kd ce0 ce1 ce2 ce3 h0 n0 _ T9.heap _
          rw [e9]
          exact Or.inr (Or.inr (Or.inr (Or.inr (⟨rfl, N9, O9, K9, hc20_11⟩))))
        · -- pc 20: not (255 : Int32) < ce3
          refine oT (fun _ u => XS.icmpYes X9.here hx rfl (pc0 := 20) (pc' := 26) rfl (hb hby d10_20) rfl (flt hc20_11).2.2.2 (by decide) (by decide) u) ?_
          show oE _ _ _ _ (T9.setTop (mkF m 26 #[.val (.ref ca), .val (.int 3), .val (.ref da), .val (.int 3), .val (.int 4), .val (.int 3), .val (.int ce3)] []))
          refine oT (fun _ u => XS.aloadN X9.here hx rfl (hb hby d10_26) rfl rfl u) ?_
          refine oT (fun _ u => XS.iloadN X9.here hx rfl (hb hby d10_27) rfl u) ?_
          refine oT (fun _ u => XS.iload X9.here hx rfl (hb hby d10_28) rfl u) ?_
          refine oT (fun _ u => XS.i2b X9.here hx rfl (hb hby d10_30) rfl u) ?_
          obtain ⟨cl12, Ar12, q12, S12, M12, H12, G12⟩ := id Vs9
          have hin12 : ¬ ((3 : Int32) < 0 ∨ cl12.slots.size ≤ ((3 : Int32)).toNatClampNeg) := inb_of S12 ⟨by decide, by decide⟩
          obtain ⟨T12, h12, X12, e12, W12, st12⟩ := stB X9 hx hZ e9 Ar12 (j := (3 : Int32)) hin12 (g := (mkF m 31 #[.val (.ref ca), .val (.int 3), .val (.ref da), .val (.int 3), .val (.int 4), .val (.int 3), .val (.int ce3)] [(.int (ce3.toInt8.toInt32)), (.int 3), (.ref da)])) rfl rfl (hb hby d10_31)
          have Vs12 : Arv Z h12 da kd .byte (4 : Int32) [(.int (ce0.toInt8.toInt32)), (.int (ce1.toInt8.toInt32)), (.int (ce2.toInt8.toInt32)), (.int (nar .byte (ce3.toInt8.toInt32)))] (.int (0 : Int32)) := Arv.set Ar12 q12 S12 M12 H12 G12 (fits_nar_byte _) W12 3 rfl (own_lt rfl)
          rw [show (nar .byte (ce3.toInt8.toInt32)) = (ce3.toInt8.toInt32) from (own_nb _)] at Vs12
          refine oT st12 ?_
          have O12 := O9.wr W12 g_da
          have N12 := Fr.snoc X12 N9 g_da
          have K12 := K9.wr W12 (Or.inl (List.mem_of_getElem? (i := 0) rfl))
          show oE _ _ _ _ (T12.setTop (mkF m 32 #[.val (.ref ca), .val (.int 3), .val (.ref da), .val (.int 3), .val (.int 4), .val (.int 3), .val (.int ce3)] []))
          refine oT (fun _ u => XS.iinc X12.here hx rfl (hb hby d10_32) rfl (l' := #[.val (.ref ca), .val (.int (4 : Int32)), .val (.ref da), .val (.int (3 : Int32)), .val (.int (4 : Int32)), .val (.int (3 : Int32)), .val (.int ce3)]) rfl u) ?_
          show oE _ _ _ _ (T12.setTop (mkF m 35 #[.val (.ref ca), .val (.int 4), .val (.ref da), .val (.int 3), .val (.int 4), .val (.int 3), .val (.int ce3)] []))
          refine oT (fun _ u => XS.iinc X12.here hx rfl (hb hby d10_35) rfl (l' := #[.val (.ref ca), .val (.int (4 : Int32)), .val (.ref da), .val (.int (4 : Int32)), .val (.int (4 : Int32)), .val (.int (3 : Int32)), .val (.int ce3)]) rfl u) ?_
          show oE _ _ _ _ (T12.setTop (mkF m 38 #[.val (.ref ca), .val (.int 4), .val (.ref da), .val (.int 4), .val (.int 4), .val (.int 3), .val (.int ce3)] []))
          refine oT (fun _ u => XS.iinc X12.here hx rfl (hb hby d10_38) rfl (l' := #[.val (.ref ca), .val (.int (4 : Int32)), .val (.ref da), .val (.int (4 : Int32)), .val (.int (4 : Int32)), .val (.int (4 : Int32)), .val (.int ce3)]) rfl u) ?_
          show oE _ _ _ _ (T12.setTop (mkF m 41 #[.val (.ref ca), .val (.int 4), .val (.ref da), .val (.int 4), .val (.int 4), .val (.int 4), .val (.int ce3)] []))
          refine oT (fun _ u => XS.goto X12.here hx rfl (pc0 := 41) (pc' := 3) rfl (hb hby d10_41) (by decide) (by decide) u) ?_
          refine oT (fun _ u => XS.iload X12.here hx rfl (hb hby d10_3) rfl u) ?_
          refine oT (fun _ u => XS.iload X12.here hx rfl (hb hby d10_5) rfl u) ?_
          refine oT (fun _ u => XS.icmpYes X12.here hx rfl (pc0 := 7) (pc' := 44) rfl (hb hby d10_7) rfl (flt (by decide)).2.1 (by decide) (by decide) u) ?_
          show oE _ _ _ _ (T12.setTop (mkF m 44 #[.val (.ref ca), .val (.int 4), .val (.ref da), .val (.int 4), .val (.int 4), .val (.int 4), .val (.int ce3)] []))
          refine oT (fun _ u => XS.iload X12.here hx rfl (hb hby d10_44) rfl u) ?_
          refine own_leave X12 (v := some (.int (4 : Int32))) (fun h => by rw [Bd.returns] at h; cases h) ?_ (by decide) (by decide) (fun fs hr => retOut X12 hx Bd.returns rfl (Or.inl ⟨rfl, Or.inl rfl, _, rfl⟩) (hb hby d10_46) hr)
          show Q_cp2_4 Z ca da kc kd ce0 ce1 ce2 ce3 h0 n0 _ T12.heap _
          rw [e12]
          exact Or.inl ⟨rfl, N12, O12, K12, Vs12, hc20_2, hc20_5, hc20_8, hc20_11⟩
theorem ef_cp1_4 (m : MethodId) (ca : Addr) (cs_ : Int32) (rf_ : Value) (kc : ClassId) (ce0 : Int32) (ce1 : Int32) (ce2 : Int32) (ce3 : Int32) : entryFrame m #[(.ref ca), (.int (0 : Int32)), (.int (4 : Int32))] 6 = mkF m 0 #[.val (.ref ca), .val (.int (0 : Int32)), .val (.int (4 : Int32)), .unset, .unset, .unset] [] := by first | (simp [entryFrame, mkF, argsToLocals, Value.category]; done) | rfl | (rcases ref_cases hrf with rfl | ⟨q, rfl⟩ <;> rfl)
def Q_cp1_4 (Z : State) (ca : Addr) (cs_ : Int32) (rf_ : Value) (kc : ClassId) (ce0 : Int32) (ce1 : Int32) (ce2 : Int32) (ce3 : Int32) (h0 : Heap) (n0 : Nat) (v : Option Value) (h : Heap) (L : List Loc) : Prop := (∃ (b : Addr) (kb : ClassId), v = some (.ref b) ∧ n0 ≤ b ∧ h0.size ≤ b ∧ Fr n0 L ∧ Old Z n0 h ∧ Keep h0 h [] ∧ Arv Z h b kb .byte (4 : Int32) [(.int (ce0.toInt8.toInt32)), (.int (ce1.toInt8.toInt32)), (.int (ce2.toInt8.toInt32)), (.int (ce3.toInt8.toInt32))] (.int (0 : Int32)) ∧ ¬ (255 : Int32) < ce0 ∧ ¬ (255 : Int32) < ce1 ∧ ¬ (255 : Int32) < ce2 ∧ ¬ (255 : Int32) < ce3) ∨ (∃ (b : Addr) (kb : ClassId), v = some (.ref b) ∧ n0 ≤ b ∧ h0.size ≤ b ∧ Fr n0 L ∧ Old Z n0 h ∧ Keep h0 h [] ∧ Arv Z h b kb .byte (8 : Int32) [(.int ((ce0 >>> ((0 : Int32) &&& 31)).toInt8.toInt32)), (.int ((ce0 >>> ((8 : Int32) &&& 31)).toInt8.toInt32)), (.int ((ce1 >>> ((0 : Int32) &&& 31)).toInt8.toInt32)), (.int ((ce1 >>> ((8 : Int32) &&& 31)).toInt8.toInt32)), (.int ((ce2 >>> ((0 : Int32) &&& 31)).toInt8.toInt32)), (.int ((ce2 >>> ((8 : Int32) &&& 31)).toInt8.toInt32)), (.int ((ce3 >>> ((0 : Int32) &&& 31)).toInt8.toInt32)), (.int ((ce3 >>> ((8 : Int32) &&& 31)).toInt8.toInt32))] (.int (0 : Int32)))
theorem cp1_4 (l : Launch) (Z : State) (a0 : Array Value) (hw : ∀ d ∈ tables_1, d.before a0 Z = true) (ws : List Jvm.Cond) (ca : Addr) (cs_ : Int32) (rf_ : Value) (kc : ClassId) (ce0 : Int32) (ce1 : Int32) (ce2 : Int32) (ce3 : Int32) (h0 : Heap) (n0 : Nat) (O0 : Old Z n0 h0) (HS : own_HS Z cs_ rf_) (V_c : Arv Z h0 ca kc .char (4 : Int32) [(.int ce0), (.int ce1), (.int ce2), (.int ce3)] (.int (0 : Int32))) (HE0 : own_Ch ce0) (HE1 : own_Ch ce1) (HE2 : own_Ch ce2) (HE3 : own_Ch ce3) :
    MetFree l oM14 (head1 (Jvm.Cond.code oM14 jdk_52_method_16_code 6 (some (.array .byte)) :: ws) ({ frames := 3, cells := 2, slots := 12, locals := 58 } : Room)) (fun aq_ U => aq_ = #[(.ref ca), (.int (0 : Int32)), (.int (4 : Int32))] ∧ Z.Warmed39 U.vm ∧ U.heap = h0) (fun _ _ _ _ _ => True) (fun _ U o U' => ∃ v L, o = .returned v ∧ Q_cp1_4 Z ca cs_ rf_ kc ce0 ce1 ce2 ce3 h0 n0 v U'.heap L ∧ FrameEnd U o U' L 2 12) := by
  refine MetFree.of_bodySF (plainFor_of_name pn_9) hisR ?_
  intro p e s m args below meth c s₁ Bd hml0 hP hK
  obtain ⟨rfl, hZ, hh⟩ := hP
  have hx := Bd.exec
  have hby := Bd.bytes
  have hml : c.maxLocals = 6 := hml0
  have hown : s.vm.findClass "java/lang/StringUTF16" = some m.cls := findClass_of_methodNamed Bd.named
  have hnm := (name_of_methodNamed Bd.named Bd.method).1
  have X0 : Stand p l e ({ frames := 3, cells := 2, slots := 12, locals := 58 } : Room) s m #[(.ref ca), (.int (0 : Int32)), (.int (4 : Int32))] below meth c s₁ [] 0 0 := Stand.of_body Bd
  have e0 : s₁.heap = h0 := by rw [← hh, Bd.state]; rfl
  have N0 := Fr.nil n0
  show oE p.tables e below (own_P s (Q_cp1_4 Z ca cs_ rf_ kc ce0 ce1 ce2 ce3 h0 n0) 2 12) _
  refine own_cast (ef_cp1_4 m ca cs_ rf_ kc ce0 ce1 ce2 ce3) ?_
  have K0 := Keep.refl h0 []
  show oE _ _ _ _ (s₁.setTop (mkF m 0 #[.val (.ref ca), .val (.int 0), .val (.int 4), .unset, .unset, .unset] []))
  refine oT (fun _ u => XS.iloadN X0.here hx rfl (hb hby d9_0) rfl u) ?_
  obtain ⟨T1, h1, k1, X1, e1, E1, A1, st1⟩ := newP X0 hx hZ (aty := .byte) (ow25 hw) e0 (g := (mkF m 1 #[.val (.ref ca), .val (.int 0), .val (.int 4), .unset, .unset, .unset] [(.int 4)])) rfl (hb hby d9_1) rfl (by decide) (cap := 4) (by decide) (by decide) (by decide) (by decide)
  obtain ⟨b1, g1⟩ : ∃ z, z = h0.size := ⟨_, rfl⟩
  rw [← g1] at A1 st1
  have ne_ca_b1 : ca ≠ b1 := Nat.ne_of_lt (Nat.lt_of_lt_of_le V_c.lt (Nat.le_of_eq g1.symm))
  have g_b1 : n0 ≤ b1 := Nat.le_trans (own_old_le O0) (Nat.le_of_eq g1.symm)
  have sz_b1 : h0.size ≤ b1 := Nat.le_trans K0.1 (Nat.le_of_eq g1.symm)
  refine oT st1 ?_
  have O1 := O0.ext E1
  have K1 := K0.ext E1
  have Vn1 : Arv Z h1 b1 k1 .byte (4 : Int32) [(.int (0 : Int32)), (.int (0 : Int32)), (.int (0 : Int32)), (.int (0 : Int32))] (.int (0 : Int32)) := (Arv.new A1 (by decide)).pad (pad_rep [] (.int (0 : Int32)) 4)
  show oE _ _ _ _ (T1.setTop (mkF m 3 #[.val (.ref ca), .val (.int 0), .val (.int 4), .unset, .unset, .unset] [(.ref b1)]))
  refine oT (fun _ u => XS.astoreN X1.here hx rfl (hb hby d9_3) rfl rfl (l' := #[.val (.ref ca), .val (.int (0 : Int32)), .val (.int (4 : Int32)), .val (.ref b1), .unset, .unset]) rfl u) ?_
  refine oT (fun _ u => XS.aloadN X1.here hx rfl (hb hby d9_4) rfl rfl u) ?_
  refine oT (fun _ u => XS.iloadN X1.here hx rfl (hb hby d9_5) rfl u) ?_
  refine oT (fun _ u => XS.aloadN X1.here hx rfl (hb hby d9_6) rfl rfl u) ?_
  refine oT (fun _ u => XS.iconst X1.here hx rfl (hb hby d9_7) u) ?_
  refine oT (fun _ u => XS.iloadN X1.here hx rfl (hb hby d9_8) rfl u) ?_
  show oE _ _ _ _ (T1.setTop (mkF m 9 #[.val (.ref ca), .val (.int 0), .val (.int 4), .val (.ref b1), .unset, .unset] [(.int 4), (.int 0), (.ref b1), (.int 0), (.ref ca)]))
  obtain ⟨_, _, ⟨T2, L2, k2, n2⟩, -, X2, ⟨Lc2, hQ2, l2, y2, z2⟩, st2⟩ := Jvm.LawKit.callS X1 hx (y := oM13) hown (mvT hZ (ow51 hw)) (mvT hZ (ow52 hw)) (mvT hZ (ow49 hw)) (mvT hZ (ow53 hw)) (by decide) (backOf (W := 0) (cp2_4 l Z a0 hw [] ca b1 kc k1 ce0 ce1 ce2 ce3 h1 n0 O1 (V_c.ext E1) Vn1 g_b1 ne_ca_b1) hZ (ow53 hw) (ow49 hw) (by decide) (by decide)) (g := (mkF m 9 #[.val (.ref ca), .val (.int 0), .val (.int 4), .val (.ref b1), .unset, .unset] [(.int 4), (.int 0), (.ref b1), (.int 0), (.ref ca)])) rfl (by rw [hml]; rfl) (argsL := [(.ref ca), (.int (0 : Int32)), (.ref b1), (.int (0 : Int32)), (.int (4 : Int32))]) (rest := []) (lenOf pd_5 rfl) rfl (by show 2 * 0 + _ ≤ _; exact Nat.le_of_eq rfl) (hb hby d9_9) (fun _ _ => ⟨rfl, e1, (own_le rfl), (own_le rfl)⟩)
  dsimp only [Pt.U, Pt.locs, Pt.cells, Pt.slots] at X2 l2 y2 z2 st2 hQ2
  subst y2 z2
  rcases hQ2 with ⟨rfl, N2q, Oq2, Kq2, Vx2, le0, le1, le2, le3⟩ | ⟨rfl, N2q, Oq2, Kq2, gt0⟩ | ⟨rfl, N2q, Oq2, Kq2, gt1⟩ | ⟨rfl, N2q, Oq2, Kq2, gt2⟩ | ⟨rfl, N2q, Oq2, Kq2, gt3⟩
  · skip
    refine oT st2 ?_
    show oE _ _ _ _ (T2.setTop (mkF m 12 #[.val (.ref ca), .val (.int 0), .val (.int 4), .val (.ref b1), .unset, .unset] [(.int 4)]))
    have N2 := own_fr l2 N0 N2q
    have KK2 := K1.trans Kq2 (allS (Or.inr sz_b1) all0)
    show oE _ _ _ _ (T2.setTop (mkF m 12 #[.val (.ref ca), .val (.int 0), .val (.int 4), .val (.ref b1), .unset, .unset] [(.int 4)]))
    refine oT (fun _ u => XS.istore X2.here hx rfl (hb hby d9_12) rfl (l' := #[.val (.ref ca), .val (.int (0 : Int32)), .val (.int (4 : Int32)), .val (.ref b1), .val (.int (4 : Int32)), .unset]) rfl u) ?_
    refine oT (fun _ u => XS.iload X2.here hx rfl (hb hby d9_14) rfl u) ?_
    refine oT (fun _ u => XS.iloadN X2.here hx rfl (hb hby d9_16) rfl u) ?_
    refine oT (fun _ u => XS.icmpYes X2.here hx rfl (pc0 := 17) (pc' := 57) rfl (hb hby d9_17) rfl (teq (by decide)).1 (by decide) (by decide) u) ?_
    show oE _ _ _ _ (T2.setTop (mkF m 57 #[.val (.ref ca), .val (.int 0), .val (.int 4), .val (.ref b1), .val (.int 4), .unset] []))
    refine oT (fun _ u => XS.aloadN X2.here hx rfl (hb hby d9_57) rfl rfl u) ?_
    refine own_leave X2 (v := some (.ref b1)) (fun h => by rw [Bd.returns] at h; cases h) ?_ (by decide) (by decide) (fun fs hr => retOut X2 hx Bd.returns rfl (Or.inr (Or.inr (Or.inr (Or.inr ⟨rfl, rfl, rfl⟩)))) (hb hby d9_58) hr)
    show Q_cp1_4 Z ca cs_ rf_ kc ce0 ce1 ce2 ce3 h0 n0 _ T2.heap _
    exact Or.inl ⟨b1, k1, rfl, g_b1, sz_b1, N2, Oq2, KK2, Vx2, le0, le1, le2, le3⟩
  · skip
    refine oT st2 ?_
    show oE _ _ _ _ (T2.setTop (mkF m 12 #[.val (.ref ca), .val (.int 0), .val (.int 4), .val (.ref b1), .unset, .unset] [(.int 0)]))
    have N2 := own_fr l2 N0 N2q
    have KK2 := K1.trans Kq2 (allS (Or.inr sz_b1) all0)
    show oE _ _ _ _ (T2.setTop (mkF m 12 #[.val (.ref ca), .val (.int 0), .val (.int 4), .val (.ref b1), .unset, .unset] [(.int 0)]))
    refine oT (fun _ u => XS.istore X2.here hx rfl (hb hby d9_12) rfl (l' := #[.val (.ref ca), .val (.int (0 : Int32)), .val (.int (4 : Int32)), .val (.ref b1), .val (.int (0 : Int32)), .unset]) rfl u) ?_
    refine oT (fun _ u => XS.iload X2.here hx rfl (hb hby d9_14) rfl u) ?_
    refine oT (fun _ u => XS.iloadN X2.here hx rfl (hb hby d9_16) rfl u) ?_
    refine oT (fun _ u => XS.icmpNo X2.here hx rfl (hb hby d9_17) rfl (feq (by decide)).1 u) ?_
    show oE _ _ _ _ (T2.setTop (mkF m 20 #[.val (.ref ca), .val (.int 0), .val (.int 4), .val (.ref b1), .val (.int 0), .unset] []))
    refine oT (fun _ u => XS.aloadN X2.here hx rfl (hb hby d9_20) rfl rfl u) ?_
    refine oT (fun _ u => XS.iloadN X2.here hx rfl (hb hby d9_21) rfl u) ?_
    refine oT (fun _ u => XS.iloadN X2.here hx rfl (hb hby d9_22) rfl u) ?_
    obtain ⟨_, _, ⟨T3, L3, k3, n3⟩, -, X3, ⟨Lc3, hQ3, l3, y3, z3⟩, st3⟩ := Jvm.LawKit.callS X2 hx (y := oM11) hown (mvT hZ (ow89 hw)) (mvT hZ (ow90 hw)) (mvT hZ (ow49 hw)) (mvT hZ (ow91 hw)) (by decide) (backOf (W := 0) (rmTB4 l Z a0 hw [] ca cs_ rf_ kc ce0 ce1 ce2 ce3 T2.heap n0 Oq2 HS ((V_c.ext E1).keep Kq2 (ninS ne_ca_b1 nin0))) hZ (ow91 hw) (ow49 hw) (by decide) (by decide)) (g := (mkF m 23 #[.val (.ref ca), .val (.int 0), .val (.int 4), .val (.ref b1), .val (.int 0), .unset] [(.int 4), (.int 0), (.ref ca)])) rfl (by rw [hml]; rfl) (argsL := [(.ref ca), (.int (0 : Int32)), (.int (4 : Int32))]) (rest := []) (lenOf pd_6 rfl) rfl (by show 2 * 0 + _ ≤ _; exact Nat.le_of_eq rfl) (hb hby d9_23) (fun _ _ => ⟨rfl, rfl, (own_le rfl), (own_le rfl)⟩)
    dsimp only [Pt.U, Pt.locs, Pt.cells, Pt.slots] at X3 l3 y3 z3 st3 hQ3
    subst y3 z3
    obtain ⟨u3, ku3, rfl, g_u3, sq_u3, N3q, Oq3, Kq3, Vx3⟩ := hQ3
    have N3 := own_fr l3 N2 N3q
    have ne_ca_u3 : ca ≠ u3 := Nat.ne_of_lt (Nat.lt_of_lt_of_le ((V_c.ext E1).keep Kq2 (ninS ne_ca_b1 nin0)).lt sq_u3)
    have sz_u3 : h0.size ≤ u3 := Nat.le_trans KK2.1 sq_u3
    have KK3 := KK2.trans Kq3 all0
    refine oT st3 ?_
    show oE _ _ _ _ (T3.setTop (mkF m 26 #[.val (.ref ca), .val (.int 0), .val (.int 4), .val (.ref b1), .val (.int 0), .unset] [(.ref u3)]))
    refine oT (fun _ u => XS.astore X3.here hx rfl (hb hby d9_26) rfl rfl (l' := #[.val (.ref ca), .val (.int (0 : Int32)), .val (.int (4 : Int32)), .val (.ref b1), .val (.int (0 : Int32)), .val (.ref u3)]) rfl u) ?_
    refine oT (fun _ u => XS.aload X3.here hx rfl (hb hby d9_28) rfl rfl u) ?_
    refine oT (fun _ u => XS.iload X3.here hx rfl (hb hby d9_30) rfl u) ?_
    obtain ⟨_, _, ⟨T4, L4, k4, n4⟩, -, X4, ⟨Lc4, hQ4, l4, y4, z4⟩, st4⟩ := Jvm.LawKit.callS X3 hx (y := oM8) hown (mvT hZ (ow105 hw)) (mvT hZ (ow106 hw)) (mvT hZ (ow49 hw)) (mvT hZ (ow107 hw)) (by decide) (backOf (W := 0) (rmGC l Z a0 hw [] u3 (0 : Int32) cs_ rf_ ku3 (8 : Int32) [(.int ((ce0 >>> ((0 : Int32) &&& 31)).toInt8.toInt32)), (.int ((ce0 >>> ((8 : Int32) &&& 31)).toInt8.toInt32)), (.int ((ce1 >>> ((0 : Int32) &&& 31)).toInt8.toInt32)), (.int ((ce1 >>> ((8 : Int32) &&& 31)).toInt8.toInt32)), (.int ((ce2 >>> ((0 : Int32) &&& 31)).toInt8.toInt32)), (.int ((ce2 >>> ((8 : Int32) &&& 31)).toInt8.toInt32)), (.int ((ce3 >>> ((0 : Int32) &&& 31)).toInt8.toInt32)), (.int ((ce3 >>> ((8 : Int32) &&& 31)).toInt8.toInt32))] ((ce0 >>> ((0 : Int32) &&& 31)).toInt8.toInt32) ((ce0 >>> ((8 : Int32) &&& 31)).toInt8.toInt32) T3.heap n0 Oq3 HS Vx3 ⟨by decide, by decide⟩ ⟨by decide, by decide⟩ rfl rfl) hZ (ow107 hw) (ow49 hw) (by decide) (by decide)) (g := (mkF m 32 #[.val (.ref ca), .val (.int 0), .val (.int 4), .val (.ref b1), .val (.int 0), .val (.ref u3)] [(.int 0), (.ref u3)])) rfl (by rw [hml]; rfl) (argsL := [(.ref u3), (.int (0 : Int32))]) (rest := []) (lenOf pd_7 rfl) rfl (by show 2 * 0 + _ ≤ _; exact Nat.le_of_eq rfl) (hb hby d9_32) (fun _ _ => ⟨rfl, rfl, (own_le rfl), (own_le rfl)⟩)
    dsimp only [Pt.U, Pt.locs, Pt.cells, Pt.slots] at X4 l4 y4 z4 st4 hQ4
    subst y4 z4
    obtain ⟨hv4, N4q, E4⟩ := hQ4
    rw [own_utf HE0] at hv4
    subst hv4
    have N4 := own_fr l4 N3 N4q
    refine oT st4 ?_
    show oE _ _ _ _ (T4.setTop (mkF m 35 #[.val (.ref ca), .val (.int 0), .val (.int 4), .val (.ref b1), .val (.int 0), .val (.ref u3)] [(.int ce0)]))
    refine oT (fun _ u => XS.sipush X4.here hx rfl (hb hby d9_35) u) ?_
    refine oT (fun _ u => XS.icmpYes X4.here hx rfl (pc0 := 38) (pc' := 54) rfl (hb hby d9_38) rfl (tlt gt0).2.2.1 (by decide) (by decide) u) ?_
    show oE _ _ _ _ (T4.setTop (mkF m 54 #[.val (.ref ca), .val (.int 0), .val (.int 4), .val (.ref b1), .val (.int 0), .val (.ref u3)] []))
    refine oT (fun _ u => XS.aload X4.here hx rfl (hb hby d9_54) rfl rfl u) ?_
    refine own_leave X4 (v := some (.ref u3)) (fun h => by rw [Bd.returns] at h; cases h) ?_ (by decide) (by decide) (fun fs hr => retOut X4 hx Bd.returns rfl (Or.inr (Or.inr (Or.inr (Or.inr ⟨rfl, rfl, rfl⟩)))) (hb hby d9_56) hr)
    show Q_cp1_4 Z ca cs_ rf_ kc ce0 ce1 ce2 ce3 h0 n0 _ T4.heap _
    rw [E4]
    exact Or.inr ⟨u3, ku3, rfl, g_u3, sz_u3, N4, Oq3, KK3, Vx3⟩
  · skip
    refine oT st2 ?_
    show oE _ _ _ _ (T2.setTop (mkF m 12 #[.val (.ref ca), .val (.int 0), .val (.int 4), .val (.ref b1), .unset, .unset] [(.int 1)]))
    have N2 := own_fr l2 N0 N2q
    have KK2 := K1.trans Kq2 (allS (Or.inr sz_b1) all0)
    show oE _ _ _ _ (T2.setTop (mkF m 12 #[.val (.ref ca), .val (.int 0), .val (.int 4), .val (.ref b1), .unset, .unset] [(.int 1)]))
    refine oT (fun _ u => XS.istore X2.here hx rfl (hb hby d9_12) rfl (l' := #[.val (.ref ca), .val (.int (0 : Int32)), .val (.int (4 : Int32)), .val (.ref b1), .val (.int (1 : Int32)), .unset]) rfl u) ?_
    refine oT (fun _ u => XS.iload X2.here hx rfl (hb hby d9_14) rfl u) ?_
    refine oT (fun _ u => XS.iloadN X2.here hx rfl (hb hby d9_16) rfl u) ?_
    refine oT (fun _ u => XS.icmpNo X2.here hx rfl (hb hby d9_17) rfl (feq (by decide)).1 u) ?_
    show oE _ _ _ _ (T2.setTop (mkF m 20 #[.val (.ref ca), .val (.int 0), .val (.int 4), .val (.ref b1), .val (.int 1), .unset] []))
    refine oT (fun _ u => XS.aloadN X2.here hx rfl (hb hby d9_20) rfl rfl u) ?_
    refine oT (fun _ u => XS.iloadN X2.here hx rfl (hb hby d9_21) rfl u) ?_
    refine oT (fun _ u => XS.iloadN X2.here hx rfl (hb hby d9_22) rfl u) ?_
    obtain ⟨_, _, ⟨T5, L5, k5, n5⟩, -, X5, ⟨Lc5, hQ5, l5, y5, z5⟩, st5⟩ := Jvm.LawKit.callS X2 hx (y := oM11) hown (mvT hZ (ow89 hw)) (mvT hZ (ow90 hw)) (mvT hZ (ow49 hw)) (mvT hZ (ow91 hw)) (by decide) (backOf (W := 0) (rmTB4 l Z a0 hw [] ca cs_ rf_ kc ce0 ce1 ce2 ce3 T2.heap n0 Oq2 HS ((V_c.ext E1).keep Kq2 (ninS ne_ca_b1 nin0))) hZ (ow91 hw) (ow49 hw) (by decide) (by decide)) (g := (mkF m 23 #[.val (.ref ca), .val (.int 0), .val (.int 4), .val (.ref b1), .val (.int 1), .unset] [(.int 4), (.int 0), (.ref ca)])) rfl (by rw [hml]; rfl) (argsL := [(.ref ca), (.int (0 : Int32)), (.int (4 : Int32))]) (rest := []) (lenOf pd_6 rfl) rfl (by show 2 * 0 + _ ≤ _; exact Nat.le_of_eq rfl) (hb hby d9_23) (fun _ _ => ⟨rfl, rfl, (own_le rfl), (own_le rfl)⟩)
    dsimp only [Pt.U, Pt.locs, Pt.cells, Pt.slots] at X5 l5 y5 z5 st5 hQ5
    subst y5 z5
    obtain ⟨u5, ku5, rfl, g_u5, sq_u5, N5q, Oq5, Kq5, Vx5⟩ := hQ5
    have N5 := own_fr l5 N2 N5q
    have ne_ca_u5 : ca ≠ u5 := Nat.ne_of_lt (Nat.lt_of_lt_of_le ((V_c.ext E1).keep Kq2 (ninS ne_ca_b1 nin0)).lt sq_u5)
    have sz_u5 : h0.size ≤ u5 := Nat.le_trans KK2.1 sq_u5
    have KK5 := KK2.trans Kq5 all0
    refine oT st5 ?_
    show oE _ _ _ _ (T5.setTop (mkF m 26 #[.val (.ref ca), .val (.int 0), .val (.int 4), .val (.ref b1), .val (.int 1), .unset] [(.ref u5)]))
    refine oT (fun _ u => XS.astore X5.here hx rfl (hb hby d9_26) rfl rfl (l' := #[.val (.ref ca), .val (.int (0 : Int32)), .val (.int (4 : Int32)), .val (.ref b1), .val (.int (1 : Int32)), .val (.ref u5)]) rfl u) ?_
    refine oT (fun _ u => XS.aload X5.here hx rfl (hb hby d9_28) rfl rfl u) ?_
    refine oT (fun _ u => XS.iload X5.here hx rfl (hb hby d9_30) rfl u) ?_
    obtain ⟨_, _, ⟨T6, L6, k6, n6⟩, -, X6, ⟨Lc6, hQ6, l6, y6, z6⟩, st6⟩ := Jvm.LawKit.callS X5 hx (y := oM8) hown (mvT hZ (ow105 hw)) (mvT hZ (ow106 hw)) (mvT hZ (ow49 hw)) (mvT hZ (ow107 hw)) (by decide) (backOf (W := 0) (rmGC l Z a0 hw [] u5 (1 : Int32) cs_ rf_ ku5 (8 : Int32) [(.int ((ce0 >>> ((0 : Int32) &&& 31)).toInt8.toInt32)), (.int ((ce0 >>> ((8 : Int32) &&& 31)).toInt8.toInt32)), (.int ((ce1 >>> ((0 : Int32) &&& 31)).toInt8.toInt32)), (.int ((ce1 >>> ((8 : Int32) &&& 31)).toInt8.toInt32)), (.int ((ce2 >>> ((0 : Int32) &&& 31)).toInt8.toInt32)), (.int ((ce2 >>> ((8 : Int32) &&& 31)).toInt8.toInt32)), (.int ((ce3 >>> ((0 : Int32) &&& 31)).toInt8.toInt32)), (.int ((ce3 >>> ((8 : Int32) &&& 31)).toInt8.toInt32))] ((ce1 >>> ((0 : Int32) &&& 31)).toInt8.toInt32) ((ce1 >>> ((8 : Int32) &&& 31)).toInt8.toInt32) T5.heap n0 Oq5 HS Vx5 ⟨by decide, by decide⟩ ⟨by decide, by decide⟩ rfl rfl) hZ (ow107 hw) (ow49 hw) (by decide) (by decide)) (g := (mkF m 32 #[.val (.ref ca), .val (.int 0), .val (.int 4), .val (.ref b1), .val (.int 1), .val (.ref u5)] [(.int 1), (.ref u5)])) rfl (by rw [hml]; rfl) (argsL := [(.ref u5), (.int (1 : Int32))]) (rest := []) (lenOf pd_7 rfl) rfl (by show 2 * 0 + _ ≤ _; exact Nat.le_of_eq rfl) (hb hby d9_32) (fun _ _ => ⟨rfl, rfl, (own_le rfl), (own_le rfl)⟩)
    dsimp only [Pt.U, Pt.locs, Pt.cells, Pt.slots] at X6 l6 y6 z6 st6 hQ6
    subst y6 z6
    obtain ⟨hv6, N6q, E6⟩ := hQ6
    rw [own_utf HE1] at hv6
    subst hv6
    have N6 := own_fr l6 N5 N6q
    refine oT st6 ?_
    show oE _ _ _ _ (T6.setTop (mkF m 35 #[.val (.ref ca), .val (.int 0), .val (.int 4), .val (.ref b1), .val (.int 1), .val (.ref u5)] [(.int ce1)]))
    refine oT (fun _ u => XS.sipush X6.here hx rfl (hb hby d9_35) u) ?_
    refine oT (fun _ u => XS.icmpYes X6.here hx rfl (pc0 := 38) (pc' := 54) rfl (hb hby d9_38) rfl (tlt gt1).2.2.1 (by decide) (by decide) u) ?_
    show oE _ _ _ _ (T6.setTop (mkF m 54 #[.val (.ref ca), .val (.int 0), .val (.int 4), .val (.ref b1), .val (.int 1), .val (.ref u5)] []))
    refine oT (fun _ u => XS.aload X6.here hx rfl (hb hby d9_54) rfl rfl u) ?_
    refine own_leave X6 (v := some (.ref u5)) (fun h => by rw [Bd.returns] at h; cases h) ?_ (by decide) (by decide) (fun fs hr => retOut X6 hx Bd.returns rfl (Or.inr (Or.inr (Or.inr (Or.inr ⟨rfl, rfl, rfl⟩)))) (hb hby d9_56) hr)
    show Q_cp1_4 Z ca cs_ rf_ kc ce0 ce1 ce2 ce3 h0 n0 _ T6.heap _
    rw [E6]
    exact Or.inr ⟨u5, ku5, rfl, g_u5, sz_u5, N6, Oq5, KK5, Vx5⟩
  · skip
    refine oT st2 ?_
    show oE _ _ _ _ (T2.setTop (mkF m 12 #[.val (.ref ca), .val (.int 0), .val (.int 4), .val (.ref b1), .unset, .unset] [(.int 2)]))
    have N2 := own_fr l2 N0 N2q
    have KK2 := K1.trans Kq2 (allS (Or.inr sz_b1) all0)
    show oE _ _ _ _ (T2.setTop (mkF m 12 #[.val (.ref ca), .val (.int 0), .val (.int 4), .val (.ref b1), .unset, .unset] [(.int 2)]))
    refine oT (fun _ u => XS.istore X2.here hx rfl (hb hby d9_12) rfl (l' := #[.val (.ref ca), .val (.int (0 : Int32)), .val (.int (4 : Int32)), .val (.ref b1), .val (.int (2 : Int32)), .unset]) rfl u) ?_
    refine oT (fun _ u => XS.iload X2.here hx rfl (hb hby d9_14) rfl u) ?_
    refine oT (fun _ u => XS.iloadN X2.here hx rfl (hb hby d9_16) rfl u) ?_
    refine oT (fun _ u => XS.icmpNo X2.here hx rfl (hb hby d9_17) rfl (feq (by decide)).1 u) ?_
    show oE _ _ _ _ (T2.setTop (mkF m 20 #[.val (.ref ca), .val (.int 0), .val (.int 4), .val (.ref b1), .val (.int 2), .unset] []))
    refine oT (fun _ u => XS.aloadN X2.here hx rfl (hb hby d9_20) rfl rfl u) ?_
    refine oT (fun _ u => XS.iloadN X2.here hx rfl (hb hby d9_21) rfl u) ?_
    refine oT (fun _ u => XS.iloadN X2.here hx rfl (hb hby d9_22) rfl u) ?_
    obtain ⟨_, _, ⟨T7, L7, k7, n7⟩, -, X7, ⟨Lc7, hQ7, l7, y7, z7⟩, st7⟩ := Jvm.LawKit.callS X2 hx (y := oM11) hown (mvT hZ (ow89 hw)) (mvT hZ (ow90 hw)) (mvT hZ (ow49 hw)) (mvT hZ (ow91 hw)) (by decide) (backOf (W := 0) (rmTB4 l Z a0 hw [] ca cs_ rf_ kc ce0 ce1 ce2 ce3 T2.heap n0 Oq2 HS ((V_c.ext E1).keep Kq2 (ninS ne_ca_b1 nin0))) hZ (ow91 hw) (ow49 hw) (by decide) (by decide)) (g := (mkF m 23 #[.val (.ref ca), .val (.int 0), .val (.int 4), .val (.ref b1), .val (.int 2), .unset] [(.int 4), (.int 0), (.ref ca)])) rfl (by rw [hml]; rfl) (argsL := [(.ref ca), (.int (0 : Int32)), (.int (4 : Int32))]) (rest := []) (lenOf pd_6 rfl) rfl (by show 2 * 0 + _ ≤ _; exact Nat.le_of_eq rfl) (hb hby d9_23) (fun _ _ => ⟨rfl, rfl, (own_le rfl), (own_le rfl)⟩)
    dsimp only [Pt.U, Pt.locs, Pt.cells, Pt.slots] at X7 l7 y7 z7 st7 hQ7
    subst y7 z7
    obtain ⟨u7, ku7, rfl, g_u7, sq_u7, N7q, Oq7, Kq7, Vx7⟩ := hQ7
    have N7 := own_fr l7 N2 N7q
    have ne_ca_u7 : ca ≠ u7 := Nat.ne_of_lt (Nat.lt_of_lt_of_le ((V_c.ext E1).keep Kq2 (ninS ne_ca_b1 nin0)).lt sq_u7)
    have sz_u7 : h0.size ≤ u7 := Nat.le_trans KK2.1 sq_u7
    have KK7 := KK2.trans Kq7 all0
    refine oT st7 ?_
    show oE _ _ _ _ (T7.setTop (mkF m 26 #[.val (.ref ca), .val (.int 0), .val (.int 4), .val (.ref b1), .val (.int 2), .unset] [(.ref u7)]))
    refine oT (fun _ u => XS.astore X7.here hx rfl (hb hby d9_26) rfl rfl (l' := #[.val (.ref ca), .val (.int (0 : Int32)), .val (.int (4 : Int32)), .val (.ref b1), .val (.int (2 : Int32)), .val (.ref u7)]) rfl u) ?_
    refine oT (fun _ u => XS.aload X7.here hx rfl (hb hby d9_28) rfl rfl u) ?_
    refine oT (fun _ u => XS.iload X7.here hx rfl (hb hby d9_30) rfl u) ?_
    obtain ⟨_, _, ⟨T8, L8, k8, n8⟩, -, X8, ⟨Lc8, hQ8, l8, y8, z8⟩, st8⟩ := Jvm.LawKit.callS X7 hx (y := oM8) hown (mvT hZ (ow105 hw)) (mvT hZ (ow106 hw)) (mvT hZ (ow49 hw)) (mvT hZ (ow107 hw)) (by decide) (backOf (W := 0) (rmGC l Z a0 hw [] u7 (2 : Int32) cs_ rf_ ku7 (8 : Int32) [(.int ((ce0 >>> ((0 : Int32) &&& 31)).toInt8.toInt32)), (.int ((ce0 >>> ((8 : Int32) &&& 31)).toInt8.toInt32)), (.int ((ce1 >>> ((0 : Int32) &&& 31)).toInt8.toInt32)), (.int ((ce1 >>> ((8 : Int32) &&& 31)).toInt8.toInt32)), (.int ((ce2 >>> ((0 : Int32) &&& 31)).toInt8.toInt32)), (.int ((ce2 >>> ((8 : Int32) &&& 31)).toInt8.toInt32)), (.int ((ce3 >>> ((0 : Int32) &&& 31)).toInt8.toInt32)), (.int ((ce3 >>> ((8 : Int32) &&& 31)).toInt8.toInt32))] ((ce2 >>> ((0 : Int32) &&& 31)).toInt8.toInt32) ((ce2 >>> ((8 : Int32) &&& 31)).toInt8.toInt32) T7.heap n0 Oq7 HS Vx7 ⟨by decide, by decide⟩ ⟨by decide, by decide⟩ rfl rfl) hZ (ow107 hw) (ow49 hw) (by decide) (by decide)) (g := (mkF m 32 #[.val (.ref ca), .val (.int 0), .val (.int 4), .val (.ref b1), .val (.int 2), .val (.ref u7)] [(.int 2), (.ref u7)])) rfl (by rw [hml]; rfl) (argsL := [(.ref u7), (.int (2 : Int32))]) (rest := []) (lenOf pd_7 rfl) rfl (by show 2 * 0 + _ ≤ _; exact Nat.le_of_eq rfl) (hb hby d9_32) (fun _ _ => ⟨rfl, rfl, (own_le rfl), (own_le rfl)⟩)
    dsimp only [Pt.U, Pt.locs, Pt.cells, Pt.slots] at X8 l8 y8 z8 st8 hQ8
    subst y8 z8
    obtain ⟨hv8, N8q, E8⟩ := hQ8
    rw [own_utf HE2] at hv8
    subst hv8
    have N8 := own_fr l8 N7 N8q
    refine oT st8 ?_
    show oE _ _ _ _ (T8.setTop (mkF m 35 #[.val (.ref ca), .val (.int 0), .val (.int 4), .val (.ref b1), .val (.int 2), .val (.ref u7)] [(.int ce2)]))
    refine oT (fun _ u => XS.sipush X8.here hx rfl (hb hby d9_35) u) ?_
    refine oT (fun _ u => XS.icmpYes X8.here hx rfl (pc0 := 38) (pc' := 54) rfl (hb hby d9_38) rfl (tlt gt2).2.2.1 (by decide) (by decide) u) ?_
    show oE _ _ _ _ (T8.setTop (mkF m 54 #[.val (.ref ca), .val (.int 0), .val (.int 4), .val (.ref b1), .val (.int 2), .val (.ref u7)] []))
    refine oT (fun _ u => XS.aload X8.here hx rfl (hb hby d9_54) rfl rfl u) ?_
    refine own_leave X8 (v := some (.ref u7)) (fun h => by rw [Bd.returns] at h; cases h) ?_ (by decide) (by decide) (fun fs hr => retOut X8 hx Bd.returns rfl (Or.inr (Or.inr (Or.inr (Or.inr ⟨rfl, rfl, rfl⟩)))) (hb hby d9_56) hr)
    show Q_cp1_4 Z ca cs_ rf_ kc ce0 ce1 ce2 ce3 h0 n0 _ T8.heap _
    rw [E8]
    exact Or.inr ⟨u7, ku7, rfl, g_u7, sz_u7, N8, Oq7, KK7, Vx7⟩
  · skip
    refine oT st2 ?_
    show oE _ _ _ _ (T2.setTop (mkF m 12 #[.val (.ref ca), .val (.int 0), .val (.int 4), .val (.ref b1), .unset, .unset] [(.int 3)]))
    have N2 := own_fr l2 N0 N2q
    have KK2 := K1.trans Kq2 (allS (Or.inr sz_b1) all0)
    show oE _ _ _ _ (T2.setTop (mkF m 12 #[.val (.ref ca), .val (.int 0), .val (.int 4), .val (.ref b1), .unset, .unset] [(.int 3)]))
    refine oT (fun _ u => XS.istore X2.here hx rfl (hb hby d9_12) rfl (l' := #[.val (.ref ca), .val (.int (0 : Int32)), .val (.int (4 : Int32)), .val (.ref b1), .val (.int (3 : Int32)), .unset]) rfl u) ?_
    refine oT (fun _ u => XS.iload X2.here hx rfl (hb hby d9_14) rfl u) ?_
    refine oT (fun _ u => XS.iloadN X2.here hx rfl (hb hby d9_16) rfl u) ?_
    refine oT (fun _ u => XS.icmpNo X2.here hx rfl (hb hby d9_17) rfl (feq (by decide)).1 u) ?_
    show oE _ _ _ _ (T2.setTop (mkF m 20 #[.val (.ref ca), .val (.int 0), .val (.int 4), .val (.ref b1), .val (.int 3), .unset] []))
    refine oT (fun _ u => XS.aloadN X2.here hx rfl (hb hby d9_20) rfl rfl u) ?_
    refine oT (fun _ u => XS.iloadN X2.here hx rfl (hb hby d9_21) rfl u) ?_
    refine oT (fun _ u => XS.iloadN X2.here hx rfl (hb hby d9_22) rfl u) ?_
    obtain ⟨_, _, ⟨T9, L9, k9, n9⟩, -, X9, ⟨Lc9, hQ9, l9, y9, z9⟩, st9⟩ := Jvm.LawKit.callS X2 hx (y := oM11) hown (mvT hZ (ow89 hw)) (mvT hZ (ow90 hw)) (mvT hZ (ow49 hw)) (mvT hZ (ow91 hw)) (by decide) (backOf (W := 0) (rmTB4 l Z a0 hw [] ca cs_ rf_ kc ce0 ce1 ce2 ce3 T2.heap n0 Oq2 HS ((V_c.ext E1).keep Kq2 (ninS ne_ca_b1 nin0))) hZ (ow91 hw) (ow49 hw) (by decide) (by decide)) (g := (mkF m 23 #[.val (.ref ca), .val (.int 0), .val (.int 4), .val (.ref b1), .val (.int 3), .unset] [(.int 4), (.int 0), (.ref ca)])) rfl (by rw [hml]; rfl) (argsL := [(.ref ca), (.int (0 : Int32)), (.int (4 : Int32))]) (rest := []) (lenOf pd_6 rfl) rfl (by show 2 * 0 + _ ≤ _; exact Nat.le_of_eq rfl) (hb hby d9_23) (fun _ _ => ⟨rfl, rfl, (own_le rfl), (own_le rfl)⟩)
    dsimp only [Pt.U, Pt.locs, Pt.cells, Pt.slots] at X9 l9 y9 z9 st9 hQ9
    subst y9 z9
    obtain ⟨u9, ku9, rfl, g_u9, sq_u9, N9q, Oq9, Kq9, Vx9⟩ := hQ9
    have N9 := own_fr l9 N2 N9q
    have ne_ca_u9 : ca ≠ u9 := Nat.ne_of_lt (Nat.lt_of_lt_of_le ((V_c.ext E1).keep Kq2 (ninS ne_ca_b1 nin0)).lt sq_u9)
    have sz_u9 : h0.size ≤ u9 := Nat.le_trans KK2.1 sq_u9
    have KK9 := KK2.trans Kq9 all0
    refine oT st9 ?_
    show oE _ _ _ _ (T9.setTop (mkF m 26 #[.val (.ref ca), .val (.int 0), .val (.int 4), .val (.ref b1), .val (.int 3), .unset] [(.ref u9)]))
    refine oT (fun _ u => XS.astore X9.here hx rfl (hb hby d9_26) rfl rfl (l' := #[.val (.ref ca), .val (.int (0 : Int32)), .val (.int (4 : Int32)), .val (.ref b1), .val (.int (3 : Int32)), .val (.ref u9)]) rfl u) ?_
    refine oT (fun _ u => XS.aload X9.here hx rfl (hb hby d9_28) rfl rfl u) ?_
    refine oT (fun _ u => XS.iload X9.here hx rfl (hb hby d9_30) rfl u) ?_
    obtain ⟨_, _, ⟨T10, L10, k10, n10⟩, -, X10, ⟨Lc10, hQ10, l10, y10, z10⟩, st10⟩ := Jvm.LawKit.callS X9 hx (y := oM8) hown (mvT hZ (ow105 hw)) (mvT hZ (ow106 hw)) (mvT hZ (ow49 hw)) (mvT hZ (ow107 hw)) (by decide) (backOf (W := 0) (rmGC l Z a0 hw [] u9 (3 : Int32) cs_ rf_ ku9 (8 : Int32) [(.int ((ce0 >>> ((0 : Int32) &&& 31)).toInt8.toInt32)), (.int ((ce0 >>> ((8 : Int32) &&& 31)).toInt8.toInt32)), (.int ((ce1 >>> ((0 : Int32) &&& 31)).toInt8.toInt32)), (.int ((ce1 >>> ((8 : Int32) &&& 31)).toInt8.toInt32)), (.int ((ce2 >>> ((0 : Int32) &&& 31)).toInt8.toInt32)), (.int ((ce2 >>> ((8 : Int32) &&& 31)).toInt8.toInt32)), (.int ((ce3 >>> ((0 : Int32) &&& 31)).toInt8.toInt32)), (.int ((ce3 >>> ((8 : Int32) &&& 31)).toInt8.toInt32))] ((ce3 >>> ((0 : Int32) &&& 31)).toInt8.toInt32) ((ce3 >>> ((8 : Int32) &&& 31)).toInt8.toInt32) T9.heap n0 Oq9 HS Vx9 ⟨by decide, by decide⟩ ⟨by decide, by decide⟩ rfl rfl) hZ (ow107 hw) (ow49 hw) (by decide) (by decide)) (g := (mkF m 32 #[.val (.ref ca), .val (.int 0), .val (.int 4), .val (.ref b1), .val (.int 3), .val (.ref u9)] [(.int 3), (.ref u9)])) rfl (by rw [hml]; rfl) (argsL := [(.ref u9), (.int (3 : Int32))]) (rest := []) (lenOf pd_7 rfl) rfl (by show 2 * 0 + _ ≤ _; exact Nat.le_of_eq rfl) (hb hby d9_32) (fun _ _ => ⟨rfl, rfl, (own_le rfl), (own_le rfl)⟩)
    dsimp only [Pt.U, Pt.locs, Pt.cells, Pt.slots] at X10 l10 y10 z10 st10 hQ10
    subst y10 z10
    obtain ⟨hv10, N10q, E10⟩ := hQ10
    rw [own_utf HE3] at hv10
    subst hv10
    have N10 := own_fr l10 N9 N10q
    refine oT st10 ?_
    show oE _ _ _ _ (T10.setTop (mkF m 35 #[.val (.ref ca), .val (.int 0), .val (.int 4), .val (.ref b1), .val (.int 3), .val (.ref u9)] [(.int ce3)]))
    refine oT (fun _ u => XS.sipush X10.here hx rfl (hb hby d9_35) u) ?_
    refine oT (fun _ u => XS.icmpYes X10.here hx rfl (pc0 := 38) (pc' := 54) rfl (hb hby d9_38) rfl (tlt gt3).2.2.1 (by decide) (by decide) u) ?_
    show oE _ _ _ _ (T10.setTop (mkF m 54 #[.val (.ref ca), .val (.int 0), .val (.int 4), .val (.ref b1), .val (.int 3), .val (.ref u9)] []))
    refine oT (fun _ u => XS.aload X10.here hx rfl (hb hby d9_54) rfl rfl u) ?_
    refine own_leave X10 (v := some (.ref u9)) (fun h => by rw [Bd.returns] at h; cases h) ?_ (by decide) (by decide) (fun fs hr => retOut X10 hx Bd.returns rfl (Or.inr (Or.inr (Or.inr (Or.inr ⟨rfl, rfl, rfl⟩)))) (hb hby d9_56) hr)
    show Q_cp1_4 Z ca cs_ rf_ kc ce0 ce1 ce2 ce3 h0 n0 _ T10.heap _
    rw [E10]
    exact Or.inr ⟨u9, ku9, rfl, g_u9, sz_u9, N10, Oq9, KK9, Vx9⟩
theorem ef_in4_4 (m : MethodId) (a : Addr) (ca : Addr) (cs_ : Int32) (rf_ : Value) (kc : ClassId) (ce0 : Int32) (ce1 : Int32) (ce2 : Int32) (ce3 : Int32) : entryFrame m #[(.ref a), (.ref ca), (.int (0 : Int32)), (.int (4 : Int32)), .null] 6 = mkF m 0 #[.val (.ref a), .val (.ref ca), .val (.int (0 : Int32)), .val (.int (4 : Int32)), .val .null, .unset] [] := by first | (simp [entryFrame, mkF, argsToLocals, Value.category]; done) | rfl | (rcases ref_cases hrf with rfl | ⟨q, rfl⟩ <;> rfl)
def Q_in4_4 (Z : State) (a : Addr) (ca : Addr) (cs_ : Int32) (rf_ : Value) (kc : ClassId) (ce0 : Int32) (ce1 : Int32) (ce2 : Int32) (ce3 : Int32) (h0 : Heap) (n0 : Nat) (v : Option Value) (h : Heap) (L : List Loc) : Prop := v = none ∧ Fr n0 L ∧ Old Z n0 h ∧ Keep h0 h [a] ∧ own_Tx4 Z h a ce0 ce1 ce2 ce3
theorem in4_4 (l : Launch) (Z : State) (a0 : Array Value) (hw : ∀ d ∈ tables_1, d.before a0 Z = true) (ws : List Jvm.Cond) (a : Addr) (ca : Addr) (cs_ : Int32) (rf_ : Value) (kc : ClassId) (ce0 : Int32) (ce1 : Int32) (ce2 : Int32) (ce3 : Int32) (h0 : Heap) (n0 : Nat) (O0 : Old Z n0 h0) (g_a : n0 ≤ a) (E_a : Exa Z h0 a "java/lang/String") (F_v : Fld Z h0 a "java/lang/String" "value" "[B" .null) (F_c : Fld Z h0 a "java/lang/String" "coder" "B" (.int (0 : Int32))) (V_c : Arv Z h0 ca kc .char (4 : Int32) [(.int ce0), (.int ce1), (.int ce2), (.int ce3)] (.int (0 : Int32))) (ne_ca_a : ca ≠ a) (HS : own_HS Z cs_ rf_) (HE0 : own_Ch ce0) (HE1 : own_Ch ce1) (HE2 : own_Ch ce2) (HE3 : own_Ch ce3) :
    MetFree l oM15 (head1 (Jvm.Cond.code oM15 jdk_42_method_149_code 6 none :: ws) ({ frames := 4, cells := 2, slots := 12, locals := 80 } : Room)) (fun aq_ U => aq_ = #[(.ref a), (.ref ca), (.int (0 : Int32)), (.int (4 : Int32)), .null] ∧ Z.Warmed39 U.vm ∧ U.heap = h0) (fun _ _ _ _ _ => True) (fun _ U o U' => ∃ v L, o = .returned v ∧ Q_in4_4 Z a ca cs_ rf_ kc ce0 ce1 ce2 ce3 h0 n0 v U'.heap L ∧ FrameEnd U o U' L 2 12) := by
  refine MetFree.of_bodySF (plainFor_of_name pn_4) hisR ?_
  intro p e s m args below meth c s₁ Bd hml0 hP hK
  obtain ⟨rfl, hZ, hh⟩ := hP
  have hx := Bd.exec
  have hby := Bd.bytes
  have hml : c.maxLocals = 6 := hml0
  have hown : s.vm.findClass "java/lang/String" = some m.cls := findClass_of_methodNamed Bd.named
  have hnm := (name_of_methodNamed Bd.named Bd.method).1
  have X0 : Stand p l e ({ frames := 4, cells := 2, slots := 12, locals := 80 } : Room) s m #[(.ref a), (.ref ca), (.int (0 : Int32)), (.int (4 : Int32)), .null] below meth c s₁ [] 0 0 := Stand.of_body Bd
  have e0 : s₁.heap = h0 := by rw [← hh, Bd.state]; rfl
  have N0 := Fr.nil n0
  show oE p.tables e below (own_P s (Q_in4_4 Z a ca cs_ rf_ kc ce0 ce1 ce2 ce3 h0 n0) 2 12) _
  refine own_cast (ef_in4_4 m a ca cs_ rf_ kc ce0 ce1 ce2 ce3) ?_
  have K0 := Keep.refl h0 [a]
  show oE _ _ _ _ (s₁.setTop (mkF m 0 #[.val (.ref a), .val (.ref ca), .val (.int 0), .val (.int 4), .val .null, .unset] []))
  refine oT (fun _ u => XS.aloadN X0.here hx rfl (hb hby d4_0) rfl rfl u) ?_
  obtain ⟨T1, X1, e1, st1⟩ := initO X0 hx hZ hown (ow21 hw) (ow22 hw) (ow23 hw) e0 (g := (mkF m 1 #[.val (.ref a), .val (.ref ca), .val (.int 0), .val (.int 4), .val .null, .unset] [(.ref a)])) rfl (by rw [hml]; rfl) rfl (hb hby d4_1) (by decide) (W := 0) (by show 2 * 0 + _ ≤ _; exact Nat.le_of_eq rfl) (by decide)
  refine oT st1 ?_
  show oE _ _ _ _ (T1.setTop (mkF m 4 #[.val (.ref a), .val (.ref ca), .val (.int 0), .val (.int 4), .val .null, .unset] []))
  refine oT (fun _ u => XS.iloadN X1.here hx rfl (hb hby d4_4) rfl u) ?_
  refine oT (fun _ u => XS.ifYes X1.here hx rfl (pc0 := 5) (pc' := 27) rfl (hb hby d4_5) rfl ((if0 _ _).trans (feq (by decide)).2) (by decide) (by decide) u) ?_
  show oE _ _ _ _ (T1.setTop (mkF m 27 #[.val (.ref a), .val (.ref ca), .val (.int 0), .val (.int 4), .val .null, .unset] []))
  obtain ⟨T2, X2, e2, st2⟩ := getS2 X1 hx hZ hown (host := "") (Or.inl (ow46 hw)) Via.refl e1 (HS.1.ext O0.2) (g := (mkF m 27 #[.val (.ref a), .val (.ref ca), .val (.int 0), .val (.int 4), .val .null, .unset] [])) rfl (hb hby d4_27)
  refine oT st2 ?_
  show oE _ _ _ _ (T2.setTop (mkF m 30 #[.val (.ref a), .val (.ref ca), .val (.int 0), .val (.int 4), .val .null, .unset] [(.int cs_)]))
  refine oT (fun _ u => XS.ifNo X2.here hx rfl (hb hby d4_30) rfl ((if0 _ _).trans (feq HS.2.2.2.2.2.1).1) u) ?_
  show oE _ _ _ _ (T2.setTop (mkF m 33 #[.val (.ref a), .val (.ref ca), .val (.int 0), .val (.int 4), .val .null, .unset] []))
  refine oT (fun _ u => XS.aloadN X2.here hx rfl (hb hby d4_33) rfl rfl u) ?_
  refine oT (fun _ u => XS.iloadN X2.here hx rfl (hb hby d4_34) rfl u) ?_
  refine oT (fun _ u => XS.iloadN X2.here hx rfl (hb hby d4_35) rfl u) ?_
  obtain ⟨_, _, ⟨T3, L3, k3, n3⟩, -, X3, ⟨Lc3, hQ3, l3, y3, z3⟩, st3⟩ := Jvm.LawKit.callS X2 hx (y := oM14) hown (mvT hZ (ow47 hw)) (mvT hZ (ow48 hw)) (mvT hZ (ow49 hw)) (mvT hZ (ow50 hw)) (by decide) (backOf (W := 0) (cp1_4 l Z a0 hw [] ca cs_ rf_ kc ce0 ce1 ce2 ce3 h0 n0 O0 HS V_c HE0 HE1 HE2 HE3) hZ (ow50 hw) (ow49 hw) (by decide) (by decide)) (g := (mkF m 36 #[.val (.ref a), .val (.ref ca), .val (.int 0), .val (.int 4), .val .null, .unset] [(.int 4), (.int 0), (.ref ca)])) rfl (by rw [hml]; rfl) (argsL := [(.ref ca), (.int (0 : Int32)), (.int (4 : Int32))]) (rest := []) (lenOf pd_6 rfl) rfl (by show 2 * 0 + _ ≤ _; exact Nat.le_of_eq rfl) (hb hby d4_36) (fun _ _ => ⟨rfl, e2, (own_le rfl), (own_le rfl)⟩)
  dsimp only [Pt.U, Pt.locs, Pt.cells, Pt.slots] at X3 l3 y3 z3 st3 hQ3
  subst y3 z3
  rcases hQ3 with ⟨u3, ku3, rfl, g_u3, sq_u3, N3q, Oq3, Kq3, Vx3, le0, le1, le2, le3⟩ | ⟨u3, ku3, rfl, g_u3, sq_u3, N3q, Oq3, Kq3, Vx3⟩
  · skip
    refine oT st3 ?_
    show oE _ _ _ _ (T3.setTop (mkF m 39 #[.val (.ref a), .val (.ref ca), .val (.int 0), .val (.int 4), .val .null, .unset] [(.ref u3)]))
    have N3 := own_fr l3 N0 N3q
    have ne_ca_u3 : ca ≠ u3 := Nat.ne_of_lt (Nat.lt_of_lt_of_le V_c.lt sq_u3)
    have ne_a_u3 : a ≠ u3 := Nat.ne_of_lt (Nat.lt_of_lt_of_le E_a.lt sq_u3)
    have sz_u3 : h0.size ≤ u3 := Nat.le_trans K0.1 sq_u3
    have KK3 := K0.trans Kq3 all0
    show oE _ _ _ _ (T3.setTop (mkF m 39 #[.val (.ref a), .val (.ref ca), .val (.int 0), .val (.int 4), .val .null, .unset] [(.ref u3)]))
    refine oT (fun _ u => XS.astore X3.here hx rfl (hb hby d4_39) rfl rfl (l' := #[.val (.ref a), .val (.ref ca), .val (.int (0 : Int32)), .val (.int (4 : Int32)), .val .null, .val (.ref u3)]) rfl u) ?_
    refine oT (fun _ u => XS.aloadN X3.here hx rfl (hb hby d4_41) rfl rfl u) ?_
    refine oT (fun _ u => XS.aload X3.here hx rfl (hb hby d4_42) rfl rfl u) ?_
    refine oT (fun _ u => XS.iloadN X3.here hx rfl (hb hby d4_44) rfl u) ?_
    obtain ⟨_, _, ⟨T4, L4, k4, n4⟩, -, X4, ⟨Lc4, hQ4, l4, y4, z4⟩, st4⟩ := Jvm.LawKit.callS X3 hx (y := oM12) hown (mvT hZ (ow54 hw)) (mvT hZ (ow55 hw)) (mvT hZ (ow49 hw)) (mvT hZ (ow56 hw)) (by decide) (backOf (W := 1) (rmCF l Z a0 hw [] u3 (4 : Int32) cs_ rf_ ku3 (4 : Int32) [(.int (ce0.toInt8.toInt32)), (.int (ce1.toInt8.toInt32)), (.int (ce2.toInt8.toInt32)), (.int (ce3.toInt8.toInt32))] T3.heap n0 Oq3 Vx3) hZ (ow56 hw) (ow49 hw) (by decide) (by decide)) (g := (mkF m 45 #[.val (.ref a), .val (.ref ca), .val (.int 0), .val (.int 4), .val .null, .val (.ref u3)] [(.int 4), (.ref u3), (.ref a)])) rfl (by rw [hml]; rfl) (argsL := [(.ref u3), (.int (4 : Int32))]) (rest := [(.ref a)]) (lenOf pd_8 rfl) rfl (by show 2 * 0 + _ ≤ _; exact Nat.le_of_eq rfl) (hb hby d4_45) (fun _ _ => ⟨rfl, rfl, (own_le rfl), (own_le rfl)⟩)
    dsimp only [Pt.U, Pt.locs, Pt.cells, Pt.slots] at X4 l4 y4 z4 st4 hQ4
    subst y4 z4
    obtain ⟨hv4, N4q, E4⟩ := hQ4
    rw [show nar .byte (((((4 : Int32) - (4 : Int32)).toUInt32 >>> ((31 : Int32) &&& 31).toUInt32).toInt32).toInt8.toInt32) = (0 : Int32) from by decide] at hv4
    subst hv4
    have N4 := own_fr l4 N3 N4q
    refine oT st4 ?_
    show oE _ _ _ _ (T4.setTop (mkF m 48 #[.val (.ref a), .val (.ref ca), .val (.int 0), .val (.int 4), .val .null, .val (.ref u3)] [(.int 0), (.ref a)]))
    obtain ⟨T5, h5, X5, e5, W5, st5⟩ := putFN X4 hx hZ hown (ow31 hw) Via.refl E4 (F_c.keep Kq3 nin0) (E_a.keep Kq3) (Or.inr ⟨(ow27 hw), rfl, hnm⟩) (ow8 hw) (ty := .byte) (v' := (.int (nar .byte (0 : Int32)))) (by decide) rfl (fits_nar_byte _) (g := (mkF m 48 #[.val (.ref a), .val (.ref ca), .val (.int 0), .val (.int 4), .val .null, .val (.ref u3)] [(.int 0), (.ref a)])) rfl rfl (hb hby d4_48)
    refine oT st5 ?_
    have Fw5 : Fld Z h5 a "java/lang/String" "coder" "B" (.int (0 : Int32)) := (F_c.keep Kq3 nin0).same W5
    have O5 := Oq3.wr W5 g_a
    have N5 := Fr.snoc X5 N4 g_a
    have K5 := KK3.wr W5 (Or.inl (List.mem_of_getElem? (i := 0) rfl))
    show oE _ _ _ _ (T5.setTop (mkF m 51 #[.val (.ref a), .val (.ref ca), .val (.int 0), .val (.int 4), .val .null, .val (.ref u3)] []))
    refine oT (fun _ u => XS.aloadN X5.here hx rfl (hb hby d4_51) rfl rfl u) ?_
    refine oT (fun _ u => XS.aload X5.here hx rfl (hb hby d4_52) rfl rfl u) ?_
    obtain ⟨T6, h6, X6, e6, W6, st6⟩ := putF X5 hx hZ hown (host := "") (Or.inl (ow30 hw)) Via.refl e5 ((F_v.keep Kq3 nin0).other W5 (Or.inr (slot_ne (Or.inr (ow26 hw)) (Or.inr (ow27 hw)) (by decide) (t := (.array .byte)) (t' := .byte) (by decide) (by decide)))) ((E_a.keep Kq3).wr W5) (Or.inr ⟨(ow26 hw), rfl, hnm⟩) (ow8 hw) (ty := (.array .byte)) (by decide) rfl rfl (g := (mkF m 54 #[.val (.ref a), .val (.ref ca), .val (.int 0), .val (.int 4), .val .null, .val (.ref u3)] [(.ref u3), (.ref a)])) rfl rfl (hb hby d4_54)
    refine oT st6 ?_
    have Fw6 : Fld Z h6 a "java/lang/String" "value" "[B" (.ref u3) := ((F_v.keep Kq3 nin0).other W5 (Or.inr (slot_ne (Or.inr (ow26 hw)) (Or.inr (ow27 hw)) (by decide) (t := (.array .byte)) (t' := .byte) (by decide) (by decide)))).same W6
    have O6 := O5.wr W6 g_a
    have N6 := Fr.snoc X6 N5 g_a
    have K6 := K5.wr W6 (Or.inl (List.mem_of_getElem? (i := 0) rfl))
    show oE _ _ _ _ (T6.setTop (mkF m 57 #[.val (.ref a), .val (.ref ca), .val (.int 0), .val (.int 4), .val .null, .val (.ref u3)] []))
    refine own_leave X6 (v := none) (fun _ => rfl) ?_ (by decide) (by decide) (fun fs hr => X6.returnOut hx Bd.returns (hb hby d4_57) hr)
    show Q_in4_4 Z a ca cs_ rf_ kc ce0 ce1 ce2 ce3 h0 n0 _ T6.heap _
    rw [e6]
    exact ⟨rfl, N6, O6, K6, Or.inl ⟨u3, ku3, (((E_a.keep Kq3).wr W5).wr W6), (Fw5.other W6 (Or.inr (slot_ne (Or.inr (ow27 hw)) (Or.inr (ow26 hw)) (by decide) (t := .byte) (t' := (.array .byte)) (by decide) (by decide)))), Fw6, ((Vx3.other W5 (Ne.symm ne_a_u3)).other W6 (Ne.symm ne_a_u3)), le0, le1, le2, le3⟩⟩
  · skip
    refine oT st3 ?_
    show oE _ _ _ _ (T3.setTop (mkF m 39 #[.val (.ref a), .val (.ref ca), .val (.int 0), .val (.int 4), .val .null, .unset] [(.ref u3)]))
    have N3 := own_fr l3 N0 N3q
    have ne_ca_u3 : ca ≠ u3 := Nat.ne_of_lt (Nat.lt_of_lt_of_le V_c.lt sq_u3)
    have ne_a_u3 : a ≠ u3 := Nat.ne_of_lt (Nat.lt_of_lt_of_le E_a.lt sq_u3)
    have sz_u3 : h0.size ≤ u3 := Nat.le_trans K0.1 sq_u3
    have KK3 := K0.trans Kq3 all0
    show oE _ _ _ _ (T3.setTop (mkF m 39 #[.val (.ref a), .val (.ref ca), .val (.int 0), .val (.int 4), .val .null, .unset] [(.ref u3)]))
    refine oT (fun _ u => XS.astore X3.here hx rfl (hb hby d4_39) rfl rfl (l' := #[.val (.ref a), .val (.ref ca), .val (.int (0 : Int32)), .val (.int (4 : Int32)), .val .null, .val (.ref u3)]) rfl u) ?_
    refine oT (fun _ u => XS.aloadN X3.here hx rfl (hb hby d4_41) rfl rfl u) ?_
    refine oT (fun _ u => XS.aload X3.here hx rfl (hb hby d4_42) rfl rfl u) ?_
    refine oT (fun _ u => XS.iloadN X3.here hx rfl (hb hby d4_44) rfl u) ?_
    obtain ⟨_, _, ⟨T7, L7, k7, n7⟩, -, X7, ⟨Lc7, hQ7, l7, y7, z7⟩, st7⟩ := Jvm.LawKit.callS X3 hx (y := oM12) hown (mvT hZ (ow54 hw)) (mvT hZ (ow55 hw)) (mvT hZ (ow49 hw)) (mvT hZ (ow56 hw)) (by decide) (backOf (W := 1) (rmCF l Z a0 hw [] u3 (4 : Int32) cs_ rf_ ku3 (8 : Int32) [(.int ((ce0 >>> ((0 : Int32) &&& 31)).toInt8.toInt32)), (.int ((ce0 >>> ((8 : Int32) &&& 31)).toInt8.toInt32)), (.int ((ce1 >>> ((0 : Int32) &&& 31)).toInt8.toInt32)), (.int ((ce1 >>> ((8 : Int32) &&& 31)).toInt8.toInt32)), (.int ((ce2 >>> ((0 : Int32) &&& 31)).toInt8.toInt32)), (.int ((ce2 >>> ((8 : Int32) &&& 31)).toInt8.toInt32)), (.int ((ce3 >>> ((0 : Int32) &&& 31)).toInt8.toInt32)), (.int ((ce3 >>> ((8 : Int32) &&& 31)).toInt8.toInt32))] T3.heap n0 Oq3 Vx3) hZ (ow56 hw) (ow49 hw) (by decide) (by decide)) (g := (mkF m 45 #[.val (.ref a), .val (.ref ca), .val (.int 0), .val (.int 4), .val .null, .val (.ref u3)] [(.int 4), (.ref u3), (.ref a)])) rfl (by rw [hml]; rfl) (argsL := [(.ref u3), (.int (4 : Int32))]) (rest := [(.ref a)]) (lenOf pd_8 rfl) rfl (by show 2 * 0 + _ ≤ _; exact Nat.le_of_eq rfl) (hb hby d4_45) (fun _ _ => ⟨rfl, rfl, (own_le rfl), (own_le rfl)⟩)
    dsimp only [Pt.U, Pt.locs, Pt.cells, Pt.slots] at X7 l7 y7 z7 st7 hQ7
    subst y7 z7
    obtain ⟨hv7, N7q, E7⟩ := hQ7
    rw [show nar .byte (((((4 : Int32) - (8 : Int32)).toUInt32 >>> ((31 : Int32) &&& 31).toUInt32).toInt32).toInt8.toInt32) = (1 : Int32) from by decide] at hv7
    subst hv7
    have N7 := own_fr l7 N3 N7q
    refine oT st7 ?_
    show oE _ _ _ _ (T7.setTop (mkF m 48 #[.val (.ref a), .val (.ref ca), .val (.int 0), .val (.int 4), .val .null, .val (.ref u3)] [(.int 1), (.ref a)]))
    obtain ⟨T8, h8, X8, e8, W8, st8⟩ := putFN X7 hx hZ hown (ow31 hw) Via.refl E7 (F_c.keep Kq3 nin0) (E_a.keep Kq3) (Or.inr ⟨(ow27 hw), rfl, hnm⟩) (ow8 hw) (ty := .byte) (v' := (.int (nar .byte (1 : Int32)))) (by decide) rfl (fits_nar_byte _) (g := (mkF m 48 #[.val (.ref a), .val (.ref ca), .val (.int 0), .val (.int 4), .val .null, .val (.ref u3)] [(.int 1), (.ref a)])) rfl rfl (hb hby d4_48)
    refine oT st8 ?_
    have Fw8 : Fld Z h8 a "java/lang/String" "coder" "B" (.int (1 : Int32)) := (F_c.keep Kq3 nin0).same W8
    have O8 := Oq3.wr W8 g_a
    have N8 := Fr.snoc X8 N7 g_a
    have K8 := KK3.wr W8 (Or.inl (List.mem_of_getElem? (i := 0) rfl))
    show oE _ _ _ _ (T8.setTop (mkF m 51 #[.val (.ref a), .val (.ref ca), .val (.int 0), .val (.int 4), .val .null, .val (.ref u3)] []))
    refine oT (fun _ u => XS.aloadN X8.here hx rfl (hb hby d4_51) rfl rfl u) ?_
    refine oT (fun _ u => XS.aload X8.here hx rfl (hb hby d4_52) rfl rfl u) ?_
    obtain ⟨T9, h9, X9, e9, W9, st9⟩ := putF X8 hx hZ hown (host := "") (Or.inl (ow30 hw)) Via.refl e8 ((F_v.keep Kq3 nin0).other W8 (Or.inr (slot_ne (Or.inr (ow26 hw)) (Or.inr (ow27 hw)) (by decide) (t := (.array .byte)) (t' := .byte) (by decide) (by decide)))) ((E_a.keep Kq3).wr W8) (Or.inr ⟨(ow26 hw), rfl, hnm⟩) (ow8 hw) (ty := (.array .byte)) (by decide) rfl rfl (g := (mkF m 54 #[.val (.ref a), .val (.ref ca), .val (.int 0), .val (.int 4), .val .null, .val (.ref u3)] [(.ref u3), (.ref a)])) rfl rfl (hb hby d4_54)
    refine oT st9 ?_
    have Fw9 : Fld Z h9 a "java/lang/String" "value" "[B" (.ref u3) := ((F_v.keep Kq3 nin0).other W8 (Or.inr (slot_ne (Or.inr (ow26 hw)) (Or.inr (ow27 hw)) (by decide) (t := (.array .byte)) (t' := .byte) (by decide) (by decide)))).same W9
    have O9 := O8.wr W9 g_a
    have N9 := Fr.snoc X9 N8 g_a
    have K9 := K8.wr W9 (Or.inl (List.mem_of_getElem? (i := 0) rfl))
    show oE _ _ _ _ (T9.setTop (mkF m 57 #[.val (.ref a), .val (.ref ca), .val (.int 0), .val (.int 4), .val .null, .val (.ref u3)] []))
    refine own_leave X9 (v := none) (fun _ => rfl) ?_ (by decide) (by decide) (fun fs hr => X9.returnOut hx Bd.returns (hb hby d4_57) hr)
    show Q_in4_4 Z a ca cs_ rf_ kc ce0 ce1 ce2 ce3 h0 n0 _ T9.heap _
    rw [e9]
    exact ⟨rfl, N9, O9, K9, Or.inr ⟨u3, ku3, (((E_a.keep Kq3).wr W8).wr W9), (Fw8.other W9 (Or.inr (slot_ne (Or.inr (ow27 hw)) (Or.inr (ow26 hw)) (by decide) (t := .byte) (t' := (.array .byte)) (by decide) (by decide)))), Fw9, ((Vx3.other W8 (Ne.symm ne_a_u3)).other W9 (Ne.symm ne_a_u3))⟩⟩
theorem ef_in1_4 (m : MethodId) (a : Addr) (ca : Addr) : entryFrame m #[(.ref a), (.ref ca)] 2 = mkF m 0 #[.val (.ref a), .val (.ref ca)] [] := by first | (simp [entryFrame, mkF, argsToLocals, Value.category]; done) | rfl | (rcases ref_cases hrf with rfl | ⟨q, rfl⟩ <;> rfl)
def Q_in1_4 (Z : State) (a : Addr) (ca : Addr) (cs_ : Int32) (rf_ : Value) (kc : ClassId) (ce0 : Int32) (ce1 : Int32) (ce2 : Int32) (ce3 : Int32) (h0 : Heap) (n0 : Nat) (v : Option Value) (h : Heap) (L : List Loc) : Prop := v = none ∧ Fr n0 L ∧ Old Z n0 h ∧ Keep h0 h [a] ∧ own_Tx4 Z h a ce0 ce1 ce2 ce3
theorem in1_4 (l : Launch) (Z : State) (a0 : Array Value) (hw : ∀ d ∈ tables_1, d.before a0 Z = true) (ws : List Jvm.Cond) (a : Addr) (ca : Addr) (cs_ : Int32) (rf_ : Value) (kc : ClassId) (ce0 : Int32) (ce1 : Int32) (ce2 : Int32) (ce3 : Int32) (h0 : Heap) (n0 : Nat) (O0 : Old Z n0 h0) (g_a : n0 ≤ a) (E_a : Exa Z h0 a "java/lang/String") (F_v : Fld Z h0 a "java/lang/String" "value" "[B" .null) (F_c : Fld Z h0 a "java/lang/String" "coder" "B" (.int (0 : Int32))) (V_c : Arv Z h0 ca kc .char (4 : Int32) [(.int ce0), (.int ce1), (.int ce2), (.int ce3)] (.int (0 : Int32))) (ne_ca_a : ca ≠ a) (HS : own_HS Z cs_ rf_) (HE0 : own_Ch ce0) (HE1 : own_Ch ce1) (HE2 : own_Ch ce2) (HE3 : own_Ch ce3) :
    MetFree l oM16 (head1 (Jvm.Cond.code oM16 jdk_42_method_3_code 2 none :: ws) ({ frames := 5, cells := 2, slots := 12, locals := 110 } : Room)) (fun aq_ U => aq_ = #[(.ref a), (.ref ca)] ∧ Z.Warmed39 U.vm ∧ U.heap = h0) (fun _ _ _ _ _ => True) (fun _ U o U' => ∃ v L, o = .returned v ∧ Q_in1_4 Z a ca cs_ rf_ kc ce0 ce1 ce2 ce3 h0 n0 v U'.heap L ∧ FrameEnd U o U' L 2 12) := by
  refine MetFree.of_bodySF (plainFor_of_name pn_3) hisR ?_
  intro p e s m args below meth c s₁ Bd hml0 hP hK
  obtain ⟨rfl, hZ, hh⟩ := hP
  have hx := Bd.exec
  have hby := Bd.bytes
  have hml : c.maxLocals = 2 := hml0
  have hown : s.vm.findClass "java/lang/String" = some m.cls := findClass_of_methodNamed Bd.named
  have hnm := (name_of_methodNamed Bd.named Bd.method).1
  have X0 : Stand p l e ({ frames := 5, cells := 2, slots := 12, locals := 110 } : Room) s m #[(.ref a), (.ref ca)] below meth c s₁ [] 0 0 := Stand.of_body Bd
  have e0 : s₁.heap = h0 := by rw [← hh, Bd.state]; rfl
  have N0 := Fr.nil n0
  show oE p.tables e below (own_P s (Q_in1_4 Z a ca cs_ rf_ kc ce0 ce1 ce2 ce3 h0 n0) 2 12) _
  refine own_cast (ef_in1_4 m a ca) ?_
  have K0 := Keep.refl h0 [a]
  show oE _ _ _ _ (s₁.setTop (mkF m 0 #[.val (.ref a), .val (.ref ca)] []))
  refine oT (fun _ u => XS.aloadN X0.here hx rfl (hb hby d3_0) rfl rfl u) ?_
  refine oT (fun _ u => XS.aloadN X0.here hx rfl (hb hby d3_1) rfl rfl u) ?_
  refine oT (fun _ u => XS.iconst X0.here hx rfl (hb hby d3_2) u) ?_
  refine oT (fun _ u => XS.aloadN X0.here hx rfl (hb hby d3_3) rfl rfl u) ?_
  obtain ⟨cl1, Ar1, q1, S1, M1, -, -⟩ := id V_c
  refine oT (fun _ u => X0.arraylength hx (by rw [e0]; exact Ar1.1) (State.isArrayOf_alike hZ.alike Ar1.2.1) (g := (mkF m 4 #[.val (.ref a), .val (.ref ca)] [(.ref ca), (.int 0), (.ref ca), (.ref a)])) rfl rfl (hb hby d3_4) _ u) ?_
  rw [len_of S1 M1]
  show oE _ _ _ _ (s₁.setTop (mkF m 5 #[.val (.ref a), .val (.ref ca)] [(.int 4), (.int 0), (.ref ca), (.ref a)]))
  refine oT (fun _ u => XS.aconstNull X0.here hx rfl (hb hby d3_5) u) ?_
  show oE _ _ _ _ (s₁.setTop (mkF m 6 #[.val (.ref a), .val (.ref ca)] [.null, (.int 4), (.int 0), (.ref ca), (.ref a)]))
  obtain ⟨_, _, ⟨T2, L2, k2, n2⟩, -, X2, ⟨Lc2, hQ2, l2, y2, z2⟩, st2⟩ := X0.specialBack hx (y := oM15) rfl hown (mvT hZ (ow17 hw)) (mvT hZ (ow18 hw)) (mvT hZ (ow20 hw)) (by decide) (backOf (W := 0) (in4_4 l Z a0 hw [] a ca cs_ rf_ kc ce0 ce1 ce2 ce3 h0 n0 O0 g_a E_a F_v F_c V_c ne_ca_a HS HE0 HE1 HE2 HE3) hZ (ow20 hw) (ow9 hw) (by decide) (by decide)) (g := (mkF m 6 #[.val (.ref a), .val (.ref ca)] [.null, (.int 4), (.int 0), (.ref ca), (.ref a)])) rfl (by rw [hml]; rfl) (Steps.refl _) (a := a) (argsL := [(.ref ca), (.int (0 : Int32)), (.int (4 : Int32)), .null]) (rest := []) (lenOf pd_9 rfl) rfl (by show 2 * 0 + _ ≤ _; exact Nat.le_of_eq rfl) (hb hby d3_6) (fun _ _ => ⟨rfl, e0, (own_le rfl), (own_le rfl)⟩)
  dsimp only [Pt.U, Pt.locs, Pt.cells, Pt.slots] at X2 l2 y2 z2 st2 hQ2
  subst y2 z2
  obtain ⟨rfl, N2q, Oq2, Kq2, HT2⟩ := hQ2
  have N2 := own_fr l2 N0 N2q
  have KK2 := K0.trans Kq2 (allS (Or.inl (List.mem_of_getElem? (i := 0) rfl)) all0)
  refine own_tr st2 ?_
  show oE _ _ _ _ (T2.setTop (mkF m 9 #[.val (.ref a), .val (.ref ca)] []))
  refine own_leave X2 (v := none) (fun _ => rfl) ?_ (by decide) (by decide) (fun fs hr => X2.returnOut hx Bd.returns (hb hby d3_9) hr)
  show Q_in1_4 Z a ca cs_ rf_ kc ce0 ce1 ce2 ce3 h0 n0 _ T2.heap _
  exact ⟨rfl, N2, Oq2, KK2, HT2⟩
theorem own_ew {Z : State} {a0 : Array Value} (hw : ∀ d ∈ tables_1, d.before a0 Z = true) : EW Z a0 [("java/lang/String", 7)] := EW.cons (text := "") (ow24 hw) (by intro c hc; simp at hc) EW.nil
theorem own_backSH {l : Launch} {R : Room} {p : Program} {e : Env} {below : List Frame} {s : State} {args : Array Value} {Z : State} {a0 : Array Value} {EL : List (String × Nat)} {h : Heap} {vm0 : Vm} {y : MethodName} {bytes : ByteArray} {maxL : Nat} {ret : Option FieldType} {rm : Room} {len W : Nat} {as' : Array Value} {Q : Option Value → Heap → List Loc → Prop}
    (hM : MetFree l y (head1 [Jvm.Cond.code y bytes maxL ret] rm) (fun a U => a = as' ∧ Z.Warmed39 U.vm ∧ U.heap = h ∧ CHv Z EL U.vm h) (fun _ _ _ _ _ => True) (fun _ U o U' => ∃ v L, o = .returned v ∧ Q v U'.heap L ∧ ReturnedEndW U o U' L rm.cells rm.slots))
    (hZ : Z.Warmed39 vm0) (wc : (Jvm.Cond.code y bytes maxL ret).before a0 Z = true) (wz : (Jvm.Cond.initialized y.cls).before a0 Z = true) (hf : rm.frames + 1 ≤ R.frames) (hl : W + (maxL + 11) + rm.locals ≤ R.locals) (hEL : EW Z a0 EL) (H : CHv Z EL vm0 h) :
    BackS l R p e below (s.setVm vm0) args y len W (fun A a => a = as' ∧ A.U.heap = h ∧ A.cells + rm.cells ≤ R.cells ∧ A.slots + rm.slots ≤ R.slots)
      (fun A _ v B => ∃ L, Q v B.U.heap L ∧ B.locs = A.locs ++ L ∧ B.cells = A.cells + rm.cells ∧ B.slots = A.slots + rm.slots) := by
  refine BackS.of_freeW (bytes := bytes) (maxL := maxL) (ret := ret) (E := fun _ _ o t L k n => k = rm.cells ∧ n = rm.slots ∧ ∃ v, o = .returned v ∧ Q v t.heap L) hM hf hl ?_ ?_ ?_ ?_ ?_
  · intro m meth c A a Y hp
    have hU : Z.Warmed39 A.U.vm := wtrans (s := s.setVm vm0) hZ Y.warmed
    exact ⟨by show (Jvm.Cond.and _ .tt).before a A.U = true; rw [Cond.before_and, mv hU wc]; rfl, mv hU wc, mv hU wz, hp.2.2.1, hp.2.2.2⟩
  · intro m meth c A a g mk Y hp
    exact ⟨hp.1, wtrans (s := s.setVm vm0) hZ Y.warmed, hp.2.1, (CHv.at Y hZ hEL H).1⟩
  · intros
    trivial
  · rintro _ _ _ _ ⟨v, L, h1, h2, h3⟩
    exact ⟨L, _, _, h3, rfl, rfl, v, h1, h2⟩
  · rintro m meth c A a g mk v t L k n Y hp _ _ ⟨e1, e2, v', e3, e4⟩
    cases e3
    subst e1 e2
    exact ⟨L, e4, rfl, rfl, rfl⟩
theorem own_neav {Z : State} {h : Heap} {a b : Addr} {C : String} {k : ClassId} {ty : FieldType} {z : Int32} {vs : List Value} {d : Value} {a0 : Array Value} {n : Nat} (E : Exa Z h a C) (F : Arv Z h b k ty z vs d) (w : (Jvm.Cond.instantiable C n).before a0 Z = true) : b ≠ a := Ne.symm (Exa.neArv E F w)
theorem d4_8 : decode jdk_42_method_149_code 8 = .ok (.aload_n 0, 1) := by decide +kernel
theorem d4_9 : decode jdk_42_method_149_code 9 = .ok (.ldc 7, 2) := by decide +kernel
theorem d4_11 : decode jdk_42_method_149_code 11 = .ok (.getfield 9, 3) := by decide +kernel
theorem d4_14 : decode jdk_42_method_149_code 14 = .ok (.putfield 9, 3) := by decide +kernel
theorem d4_17 : decode jdk_42_method_149_code 17 = .ok (.aload_n 0, 1) := by decide +kernel
theorem d4_18 : decode jdk_42_method_149_code 18 = .ok (.ldc 7, 2) := by decide +kernel
theorem d4_20 : decode jdk_42_method_149_code 20 = .ok (.getfield 15, 3) := by decide +kernel
theorem d4_23 : decode jdk_42_method_149_code 23 = .ok (.putfield 15, 3) := by decide +kernel
theorem d4_26 : decode jdk_42_method_149_code 26 = .ok (.return_, 1) := by decide +kernel
theorem ef_in4_0 (m : MethodId) (a : Addr) (ca : Addr) (kc : ClassId) : entryFrame m #[(.ref a), (.ref ca), (.int (0 : Int32)), (.int (0 : Int32)), .null] 6 = mkF m 0 #[.val (.ref a), .val (.ref ca), .val (.int (0 : Int32)), .val (.int (0 : Int32)), .val .null, .unset] [] := by first | (simp [entryFrame, mkF, argsToLocals, Value.category]; done) | rfl | (rcases ref_cases hrf with rfl | ⟨q, rfl⟩ <;> rfl)
def Q_in4_0 (Z : State) (a : Addr) (ca : Addr) (kc : ClassId) (h0 : Heap) (n0 : Nat) (v : Option Value) (h : Heap) (L : List Loc) : Prop := v = none ∧ Fr n0 L ∧ Old Z n0 h ∧ Keep h0 h [a] ∧ own_Tx0 Z h a
theorem in4_0 (l : Launch) (Z : State) (a0 : Array Value) (hw : ∀ d ∈ tables_1, d.before a0 Z = true) (ws : List Jvm.Cond) (a : Addr) (ca : Addr) (kc : ClassId) (h0 : Heap) (n0 : Nat) (O0 : Old Z n0 h0) (g_a : n0 ≤ a) (E_a : Exa Z h0 a "java/lang/String") (F_v : Fld Z h0 a "java/lang/String" "value" "[B" .null) (F_c : Fld Z h0 a "java/lang/String" "coder" "B" (.int (0 : Int32))) (V_c : Arv Z h0 ca kc .char (0 : Int32) [] (.int (0 : Int32))) :
    MetFree l oM15 (head1 (Jvm.Cond.code oM15 jdk_42_method_149_code 6 none :: ws) ({ frames := 1, cells := 2, slots := 4, locals := 18 } : Room)) (fun aq_ U => aq_ = #[(.ref a), (.ref ca), (.int (0 : Int32)), (.int (0 : Int32)), .null] ∧ Z.Warmed39 U.vm ∧ U.heap = h0 ∧ CHv Z [("java/lang/String", 7)] U.vm h0) (fun _ _ _ _ _ => True) (fun _ U o U' => ∃ v L, o = .returned v ∧ Q_in4_0 Z a ca kc h0 n0 v U'.heap L ∧ ReturnedEndW U o U' L 2 4) := by
  refine MetFree.of_bodySF (plainFor_of_name pn_4) hisR ?_
  intro p e s m args below meth c s₁ Bd hml0 hP hK
  obtain ⟨rfl, hZ, hh, hCH⟩ := hP
  have hx := Bd.exec
  have hby := Bd.bytes
  have hml : c.maxLocals = 6 := hml0
  have hown : s.vm.findClass "java/lang/String" = some m.cls := findClass_of_methodNamed Bd.named
  have hnm := (name_of_methodNamed Bd.named Bd.method).1
  have X0 : Stand p l e ({ frames := 1, cells := 2, slots := 4, locals := 18 } : Room) (s.setVm s.vm) m #[(.ref a), (.ref ca), (.int (0 : Int32)), (.int (0 : Int32)), .null] below meth c s₁ [] 0 0 := Stand.of_body Bd
  have e0 : s₁.heap = h0 := by rw [← hh, Bd.state]; rfl
  have N0 := Fr.nil n0
  have hS0 : s.Since s.vm 0 := (State.WarmedH.refl s).since 0
  show oE p.tables e below (own_PW s (Q_in4_0 Z a ca kc h0 n0) 2 4) _
  refine own_cast (ef_in4_0 m a ca kc) ?_
  have K0 := Keep.refl h0 [a]
  show oE _ _ _ _ (s₁.setTop (mkF m 0 #[.val (.ref a), .val (.ref ca), .val (.int 0), .val (.int 0), .val .null, .unset] []))
  refine oT (fun _ u => XS.aloadN X0.here hx rfl (hb hby d4_0) rfl rfl u) ?_
  obtain ⟨T1, X1, e1, st1⟩ := initO X0 hx hZ hown (ow21 hw) (ow22 hw) (ow23 hw) e0 (g := (mkF m 1 #[.val (.ref a), .val (.ref ca), .val (.int 0), .val (.int 0), .val .null, .unset] [(.ref a)])) rfl (by rw [hml]; rfl) rfl (hb hby d4_1) (by decide) (W := 0) (by show 2 * 0 + _ ≤ _; exact Nat.le_of_eq rfl) (by decide)
  refine oT st1 ?_
  show oE _ _ _ _ (T1.setTop (mkF m 4 #[.val (.ref a), .val (.ref ca), .val (.int 0), .val (.int 0), .val .null, .unset] []))
  refine oT (fun _ u => XS.iloadN X1.here hx rfl (hb hby d4_4) rfl u) ?_
  refine oT (fun _ u => XS.ifNo X1.here hx rfl (hb hby d4_5) rfl ((if0 _ _).trans (teq (by decide)).2) u) ?_
  show oE _ _ _ _ (T1.setTop (mkF m 8 #[.val (.ref a), .val (.ref ca), .val (.int 0), .val (.int 0), .val .null, .unset] []))
  refine oT (fun _ u => XS.aloadN X1.here hx rfl (hb hby d4_8) rfl rfl u) ?_
  show oE _ _ _ _ (T1.setTop (mkF m 9 #[.val (.ref a), .val (.ref ca), .val (.int 0), .val (.int 0), .val .null, .unset] [(.ref a)]))
  obtain ⟨u2, T2, h2, k2, b2, kb2, X2, e2, E2, hS2, hk2, hZ, hown, Ex2, Fc2, Fv2, Vx2, -, -, -, Li2, -, st2⟩ := ldcCH (s := s) X1 hx hZ hown (ow24 hw) (own_str hw) e1 hS0 (Nat.zero_le _) (own_ew hw) (List.mem_of_getElem? (i := 0) rfl) hCH (vs := []) (z := (0 : Int32)) ⟨by intro c hc; simp at hc, rfl⟩ (by decide) (by decide) (g := (mkF m 9 #[.val (.ref a), .val (.ref ca), .val (.int 0), .val (.int 0), .val .null, .unset] [(.ref a)])) rfl (hb hby d4_9) (n := 0) (by decide) (by decide) (by decide) (by decide)
  refine oT st2 ?_
  have O2 := O0.ext E2
  have K2 := K0.ext E2
  have ne_u2_a : u2 ≠ a := Fld.ne Fv2 (F_v.ext E2) (fun q => nomatch q)
  have ne_b2_a : b2 ≠ a := own_neav (E_a.ext E2) Vx2 (ow8 hw)
  show oE _ _ _ _ (T2.setTop (mkF m 11 #[.val (.ref a), .val (.ref ca), .val (.int 0), .val (.int 0), .val .null, .unset] [(.ref u2), (.ref a)]))
  obtain ⟨T3, X3, e3, st3⟩ := getF X2 hx hZ hown (host := "") (Or.inl (ow30 hw)) Via.refl e2 Fv2 (g := (mkF m 11 #[.val (.ref a), .val (.ref ca), .val (.int 0), .val (.int 0), .val .null, .unset] [(.ref u2), (.ref a)])) rfl rfl (hb hby d4_11)
  refine oT st3 ?_
  show oE _ _ _ _ (T3.setTop (mkF m 14 #[.val (.ref a), .val (.ref ca), .val (.int 0), .val (.int 0), .val .null, .unset] [(.ref b2), (.ref a)]))
  obtain ⟨T4, h4, X4, e4, W4, st4⟩ := putF X3 hx hZ hown (host := "") (Or.inl (ow30 hw)) Via.refl e3 (F_v.ext E2) (E_a.ext E2) (Or.inr ⟨(ow26 hw), rfl, hnm⟩) (ow8 hw) (ty := (.array .byte)) (by decide) rfl rfl (g := (mkF m 14 #[.val (.ref a), .val (.ref ca), .val (.int 0), .val (.int 0), .val .null, .unset] [(.ref b2), (.ref a)])) rfl rfl (hb hby d4_14)
  refine oT st4 ?_
  have Fw4 : Fld Z h4 a "java/lang/String" "value" "[B" (.ref b2) := (F_v.ext E2).same W4
  have O4 := O2.wr W4 g_a
  have N4 := Fr.snoc X4 N0 g_a
  have K4 := K2.wr W4 (Or.inl (List.mem_of_getElem? (i := 0) rfl))
  show oE _ _ _ _ (T4.setTop (mkF m 17 #[.val (.ref a), .val (.ref ca), .val (.int 0), .val (.int 0), .val .null, .unset] []))
  refine oT (fun _ u => XS.aloadN X4.here hx rfl (hb hby d4_17) rfl rfl u) ?_
  show oE _ _ _ _ (T4.setTop (mkF m 18 #[.val (.ref a), .val (.ref ca), .val (.int 0), .val (.int 0), .val .null, .unset] [(.ref a)]))
  refine oT (ldcAgain (s := s) X4 hx hZ hown (ow24 hw) Li2 (g := (mkF m 18 #[.val (.ref a), .val (.ref ca), .val (.int 0), .val (.int 0), .val .null, .unset] [(.ref a)])) rfl (hb hby d4_18)) ?_
  show oE _ _ _ _ (T4.setTop (mkF m 20 #[.val (.ref a), .val (.ref ca), .val (.int 0), .val (.int 0), .val .null, .unset] [(.ref u2), (.ref a)]))
  obtain ⟨T5, X5, e5, st5⟩ := getF X4 hx hZ hown (host := "") (Or.inl (ow31 hw)) Via.refl e4 (Fc2.other W4 (Or.inl ne_u2_a)) (g := (mkF m 20 #[.val (.ref a), .val (.ref ca), .val (.int 0), .val (.int 0), .val .null, .unset] [(.ref u2), (.ref a)])) rfl rfl (hb hby d4_20)
  refine oT st5 ?_
  show oE _ _ _ _ (T5.setTop (mkF m 23 #[.val (.ref a), .val (.ref ca), .val (.int 0), .val (.int 0), .val .null, .unset] [(.int 0), (.ref a)]))
  obtain ⟨T6, h6, X6, e6, W6, st6⟩ := putFN X5 hx hZ hown (ow31 hw) Via.refl e5 ((F_c.ext E2).other W4 (Or.inr (slot_ne (Or.inr (ow27 hw)) (Or.inr (ow26 hw)) (by decide) (t := .byte) (t' := (.array .byte)) (by decide) (by decide)))) ((E_a.ext E2).wr W4) (Or.inr ⟨(ow27 hw), rfl, hnm⟩) (ow8 hw) (ty := .byte) (v' := (.int (nar .byte (0 : Int32)))) (by decide) rfl (fits_nar_byte _) (g := (mkF m 23 #[.val (.ref a), .val (.ref ca), .val (.int 0), .val (.int 0), .val .null, .unset] [(.int 0), (.ref a)])) rfl rfl (hb hby d4_23)
  refine oT st6 ?_
  have Fw6 : Fld Z h6 a "java/lang/String" "coder" "B" (.int (0 : Int32)) := ((F_c.ext E2).other W4 (Or.inr (slot_ne (Or.inr (ow27 hw)) (Or.inr (ow26 hw)) (by decide) (t := .byte) (t' := (.array .byte)) (by decide) (by decide)))).same W6
  have O6 := O4.wr W6 g_a
  have N6 := Fr.snoc X6 N4 g_a
  have K6 := K4.wr W6 (Or.inl (List.mem_of_getElem? (i := 0) rfl))
  show oE _ _ _ _ (T6.setTop (mkF m 26 #[.val (.ref a), .val (.ref ca), .val (.int 0), .val (.int 0), .val .null, .unset] []))
  refine own_leaveW X6 hS2 (by rw [e6]; exact (Nat.le_trans (Nat.le_trans hk2 (Nat.le_of_eq (Wr.size W4).symm)) (Nat.le_of_eq (Wr.size W6).symm))) (v := none) (fun _ => rfl) ?_ (by decide) (by decide) (fun fs hr => X6.returnOut hx Bd.returns (hb hby d4_26) hr)
  show Q_in4_0 Z a ca kc h0 n0 _ T6.heap _
  rw [e6]
  exact ⟨rfl, N6, O6, K6, Or.inl ⟨b2, kb2, (((E_a.ext E2).wr W4).wr W6), Fw6, (Fw4.other W6 (Or.inr (slot_ne (Or.inr (ow26 hw)) (Or.inr (ow27 hw)) (by decide) (t := (.array .byte)) (t' := .byte) (by decide) (by decide)))), ((Vx2.other W4 ne_b2_a).other W6 ne_b2_a)⟩⟩
theorem ef_in1_0 (m : MethodId) (a : Addr) (ca : Addr) : entryFrame m #[(.ref a), (.ref ca)] 2 = mkF m 0 #[.val (.ref a), .val (.ref ca)] [] := by first | (simp [entryFrame, mkF, argsToLocals, Value.category]; done) | rfl | (rcases ref_cases hrf with rfl | ⟨q, rfl⟩ <;> rfl)
def Q_in1_0 (Z : State) (a : Addr) (ca : Addr) (kc : ClassId) (h0 : Heap) (n0 : Nat) (v : Option Value) (h : Heap) (L : List Loc) : Prop := v = none ∧ Fr n0 L ∧ Old Z n0 h ∧ Keep h0 h [a] ∧ own_Tx0 Z h a
theorem in1_0 (l : Launch) (Z : State) (a0 : Array Value) (hw : ∀ d ∈ tables_1, d.before a0 Z = true) (ws : List Jvm.Cond) (a : Addr) (ca : Addr) (kc : ClassId) (h0 : Heap) (n0 : Nat) (O0 : Old Z n0 h0) (g_a : n0 ≤ a) (E_a : Exa Z h0 a "java/lang/String") (F_v : Fld Z h0 a "java/lang/String" "value" "[B" .null) (F_c : Fld Z h0 a "java/lang/String" "coder" "B" (.int (0 : Int32))) (V_c : Arv Z h0 ca kc .char (0 : Int32) [] (.int (0 : Int32))) :
    MetFree l oM16 (head1 (Jvm.Cond.code oM16 jdk_42_method_3_code 2 none :: ws) ({ frames := 2, cells := 2, slots := 4, locals := 50 } : Room)) (fun aq_ U => aq_ = #[(.ref a), (.ref ca)] ∧ Z.Warmed39 U.vm ∧ U.heap = h0 ∧ CHv Z [("java/lang/String", 7)] U.vm h0) (fun _ _ _ _ _ => True) (fun _ U o U' => ∃ v L, o = .returned v ∧ Q_in1_0 Z a ca kc h0 n0 v U'.heap L ∧ ReturnedEndW U o U' L 2 4) := by
  refine MetFree.of_bodySF (plainFor_of_name pn_3) hisR ?_
  intro p e s m args below meth c s₁ Bd hml0 hP hK
  obtain ⟨rfl, hZ, hh, hCH⟩ := hP
  have hx := Bd.exec
  have hby := Bd.bytes
  have hml : c.maxLocals = 2 := hml0
  have hown : s.vm.findClass "java/lang/String" = some m.cls := findClass_of_methodNamed Bd.named
  have hnm := (name_of_methodNamed Bd.named Bd.method).1
  have X0 : Stand p l e ({ frames := 2, cells := 2, slots := 4, locals := 50 } : Room) (s.setVm s.vm) m #[(.ref a), (.ref ca)] below meth c s₁ [] 0 0 := Stand.of_body Bd
  have e0 : s₁.heap = h0 := by rw [← hh, Bd.state]; rfl
  have N0 := Fr.nil n0
  have hS0 : s.Since s.vm 0 := (State.WarmedH.refl s).since 0
  show oE p.tables e below (own_PW s (Q_in1_0 Z a ca kc h0 n0) 2 4) _
  refine own_cast (ef_in1_0 m a ca) ?_
  have K0 := Keep.refl h0 [a]
  show oE _ _ _ _ (s₁.setTop (mkF m 0 #[.val (.ref a), .val (.ref ca)] []))
  refine oT (fun _ u => XS.aloadN X0.here hx rfl (hb hby d3_0) rfl rfl u) ?_
  refine oT (fun _ u => XS.aloadN X0.here hx rfl (hb hby d3_1) rfl rfl u) ?_
  refine oT (fun _ u => XS.iconst X0.here hx rfl (hb hby d3_2) u) ?_
  refine oT (fun _ u => XS.aloadN X0.here hx rfl (hb hby d3_3) rfl rfl u) ?_
  obtain ⟨cl1, Ar1, q1, S1, M1, -, -⟩ := id V_c
  refine oT (fun _ u => X0.arraylength hx (by rw [e0]; exact Ar1.1) (State.isArrayOf_alike hZ.alike Ar1.2.1) (g := (mkF m 4 #[.val (.ref a), .val (.ref ca)] [(.ref ca), (.int 0), (.ref ca), (.ref a)])) rfl rfl (hb hby d3_4) _ u) ?_
  rw [len_of S1 M1]
  show oE _ _ _ _ (s₁.setTop (mkF m 5 #[.val (.ref a), .val (.ref ca)] [(.int 0), (.int 0), (.ref ca), (.ref a)]))
  refine oT (fun _ u => XS.aconstNull X0.here hx rfl (hb hby d3_5) u) ?_
  show oE _ _ _ _ (s₁.setTop (mkF m 6 #[.val (.ref a), .val (.ref ca)] [.null, (.int 0), (.int 0), (.ref ca), (.ref a)]))
  obtain ⟨_, _, ⟨T2, L2, k2, n2⟩, -, X2, hSq2, gq2, ⟨Lc2, hQ2, l2, y2, z2⟩, st2⟩ := X0.specialBackS hx (y := oM15) rfl hown (mvT hZ (ow17 hw)) (mvT hZ (ow18 hw)) (mvT hZ (ow20 hw)) (by decide) (own_backSH (W := 0) (in4_0 l Z a0 hw [] a ca kc h0 n0 O0 g_a E_a F_v F_c V_c) hZ (ow20 hw) (ow9 hw) (by decide) (by decide) (own_ew hw) hCH) (g := (mkF m 6 #[.val (.ref a), .val (.ref ca)] [.null, (.int 0), (.int 0), (.ref ca), (.ref a)])) rfl (by rw [hml]; rfl) (Steps.refl _) (a := a) (argsL := [(.ref ca), (.int (0 : Int32)), (.int (0 : Int32)), .null]) (rest := []) (lenOf pd_9 rfl) rfl (by show 2 * 0 + _ ≤ _; exact Nat.le_of_eq rfl) (hb hby d3_6) (fun _ _ => ⟨rfl, e0, (own_le rfl), (own_le rfl)⟩)
  dsimp only [Pt.U, Pt.locs, Pt.cells, Pt.slots] at X2 l2 y2 z2 st2 hQ2 hSq2 gq2
  subst y2 z2
  obtain ⟨X2, hS2, hZ, hown⟩ := rebS hS0 (Nat.zero_le _) X2 hSq2 (by rw [e0] at gq2; exact gq2) hZ hown
  obtain ⟨rfl, N2q, Oq2, Kq2, HT2⟩ := hQ2
  have N2 := own_fr l2 N0 N2q
  have KK2 := K0.trans Kq2 (allS (Or.inl (List.mem_of_getElem? (i := 0) rfl)) all0)
  refine own_tr st2 ?_
  show oE _ _ _ _ (T2.setTop (mkF m 9 #[.val (.ref a), .val (.ref ca)] []))
  refine own_leaveW X2 hS2 (Nat.le_refl _) (v := none) (fun _ => rfl) ?_ (by decide) (by decide) (fun fs hr => X2.returnOut hx Bd.returns (hb hby d3_9) hr)
  show Q_in1_0 Z a ca kc h0 n0 _ T2.heap _
  exact ⟨rfl, N2, Oq2, KK2, HT2⟩
theorem d8_0 : decode jdk_42_method_152_code 0 = .ok (.getstatic 38, 3) := by decide +kernel
theorem d8_3 : decode jdk_42_method_152_code 3 = .ok (.ifCond .eq 10, 3) := by decide +kernel
theorem d8_6 : decode jdk_42_method_152_code 6 = .ok (.aload_n 0, 1) := by decide +kernel
theorem d8_7 : decode jdk_42_method_152_code 7 = .ok (.getfield 15, 3) := by decide +kernel
theorem d8_10 : decode jdk_42_method_152_code 10 = .ok (.goto 4, 3) := by decide +kernel
theorem d8_14 : decode jdk_42_method_152_code 14 = .ok (.ireturn, 1) := by decide +kernel
theorem pn_8 : plainName "java/lang/String" = true := by first | (simp [plainName, overriddenIn]; done) | decide +kernel
theorem ef_rmCo0 (m : MethodId) (a : Addr) : entryFrame m #[(.ref a)] 1 = mkF m 0 #[.val (.ref a)] [] := by first | (simp [entryFrame, mkF, argsToLocals, Value.category]; done) | rfl | (rcases ref_cases hrf with rfl | ⟨q, rfl⟩ <;> rfl)
def Q_rmCo0 (Z : State) (a : Addr) (cs_ : Int32) (rf_ : Value) (h0 : Heap) (n0 : Nat) (v : Option Value) (h : Heap) (L : List Loc) : Prop := v = some (.int (0 : Int32)) ∧ Fr n0 L ∧ h = h0
theorem rmCo0 (l : Launch) (Z : State) (a0 : Array Value) (hw : ∀ d ∈ tables_1, d.before a0 Z = true) (ws : List Jvm.Cond) (a : Addr) (cs_ : Int32) (rf_ : Value) (h0 : Heap) (n0 : Nat) (O0 : Old Z n0 h0) (HS : own_HS Z cs_ rf_) (F_c : Fld Z h0 a "java/lang/String" "coder" "B" (.int (0 : Int32))) :
    MetFree l oM17 (head1 (Jvm.Cond.code oM17 jdk_42_method_152_code 1 (some .byte) :: ws) ({ frames := 0, cells := 0, slots := 0, locals := 0 } : Room)) (fun aq_ U => aq_ = #[(.ref a)] ∧ Z.Warmed39 U.vm ∧ U.heap = h0) (fun _ _ _ _ _ => True) (fun _ U o U' => ∃ v L, o = .returned v ∧ Q_rmCo0 Z a cs_ rf_ h0 n0 v U'.heap L ∧ FrameEnd U o U' L 0 0) := by
  refine MetFree.of_bodySF (plainFor_of_name pn_8) hisR ?_
  intro p e s m args below meth c s₁ Bd hml0 hP hK
  obtain ⟨rfl, hZ, hh⟩ := hP
  have hx := Bd.exec
  have hby := Bd.bytes
  have hml : c.maxLocals = 1 := hml0
  have hown : s.vm.findClass "java/lang/String" = some m.cls := findClass_of_methodNamed Bd.named
  have hnm := (name_of_methodNamed Bd.named Bd.method).1
  have X0 : Stand p l e ({ frames := 0, cells := 0, slots := 0, locals := 0 } : Room) s m #[(.ref a)] below meth c s₁ [] 0 0 := Stand.of_body Bd
  have e0 : s₁.heap = h0 := by rw [← hh, Bd.state]; rfl
  have N0 := Fr.nil n0
  show oE p.tables e below (own_P s (Q_rmCo0 Z a cs_ rf_ h0 n0) 0 0) _
  refine own_cast (ef_rmCo0 m a) ?_
  show oE _ _ _ _ (s₁.setTop (mkF m 0 #[.val (.ref a)] []))
  obtain ⟨T1, X1, e1, st1⟩ := getS2 X0 hx hZ hown (host := "") (Or.inl (ow46 hw)) Via.refl e0 (HS.1.ext O0.2) (g := (mkF m 0 #[.val (.ref a)] [])) rfl (hb hby d8_0)
  refine oT st1 ?_
  show oE _ _ _ _ (T1.setTop (mkF m 3 #[.val (.ref a)] [(.int cs_)]))
  refine oT (fun _ u => XS.ifNo X1.here hx rfl (hb hby d8_3) rfl ((if0 _ _).trans (feq HS.2.2.2.2.2.1).1) u) ?_
  show oE _ _ _ _ (T1.setTop (mkF m 6 #[.val (.ref a)] []))
  refine oT (fun _ u => XS.aloadN X1.here hx rfl (hb hby d8_6) rfl rfl u) ?_
  obtain ⟨T2, X2, e2, st2⟩ := getF X1 hx hZ hown (host := "") (Or.inl (ow31 hw)) Via.refl e1 F_c (g := (mkF m 7 #[.val (.ref a)] [(.ref a)])) rfl rfl (hb hby d8_7)
  refine oT st2 ?_
  show oE _ _ _ _ (T2.setTop (mkF m 10 #[.val (.ref a)] [(.int 0)]))
  refine oT (fun _ u => XS.goto X2.here hx rfl (pc0 := 10) (pc' := 14) rfl (hb hby d8_10) (by decide) (by decide) u) ?_
  refine own_leave X2 (v := some (.int (0 : Int32))) (fun h => by rw [Bd.returns] at h; cases h) ?_ (by decide) (by decide) (fun fs hr => retN X2 hx (t := .byte) Bd.returns (by simp) (hb hby d8_14) hr)
  show Q_rmCo0 Z a cs_ rf_ h0 n0 _ T2.heap _
  rw [e2]
  exact ⟨rfl, N0, rfl⟩
theorem d14_0 : decode jdk_42_method_154_code 0 = .ok (.getstatic 38, 3) := by decide +kernel
theorem d14_3 : decode jdk_42_method_154_code 3 = .ok (.ifCond .eq 14, 3) := by decide +kernel
theorem d14_6 : decode jdk_42_method_154_code 6 = .ok (.aload_n 0, 1) := by decide +kernel
theorem d14_7 : decode jdk_42_method_154_code 7 = .ok (.getfield 15, 3) := by decide +kernel
theorem d14_10 : decode jdk_42_method_154_code 10 = .ok (.ifCond .ne 7, 3) := by decide +kernel
theorem d14_13 : decode jdk_42_method_154_code 13 = .ok (.iconst 1, 1) := by decide +kernel
theorem d14_14 : decode jdk_42_method_154_code 14 = .ok (.goto 4, 3) := by decide +kernel
theorem d14_18 : decode jdk_42_method_154_code 18 = .ok (.ireturn, 1) := by decide +kernel
theorem pn_14 : plainName "java/lang/String" = true := by first | (simp [plainName, overriddenIn]; done) | decide +kernel
theorem ef_rmIs0 (m : MethodId) (a : Addr) : entryFrame m #[(.ref a)] 1 = mkF m 0 #[.val (.ref a)] [] := by first | (simp [entryFrame, mkF, argsToLocals, Value.category]; done) | rfl | (rcases ref_cases hrf with rfl | ⟨q, rfl⟩ <;> rfl)
def Q_rmIs0 (Z : State) (a : Addr) (cs_ : Int32) (rf_ : Value) (h0 : Heap) (n0 : Nat) (v : Option Value) (h : Heap) (L : List Loc) : Prop := v = some (.int (1 : Int32)) ∧ Fr n0 L ∧ h = h0
theorem rmIs0 (l : Launch) (Z : State) (a0 : Array Value) (hw : ∀ d ∈ tables_1, d.before a0 Z = true) (ws : List Jvm.Cond) (a : Addr) (cs_ : Int32) (rf_ : Value) (h0 : Heap) (n0 : Nat) (O0 : Old Z n0 h0) (HS : own_HS Z cs_ rf_) (F_c : Fld Z h0 a "java/lang/String" "coder" "B" (.int (0 : Int32))) :
    MetFree l oM18 (head1 (Jvm.Cond.code oM18 jdk_42_method_154_code 1 (some .boolean) :: ws) ({ frames := 0, cells := 0, slots := 0, locals := 0 } : Room)) (fun aq_ U => aq_ = #[(.ref a)] ∧ Z.Warmed39 U.vm ∧ U.heap = h0) (fun _ _ _ _ _ => True) (fun _ U o U' => ∃ v L, o = .returned v ∧ Q_rmIs0 Z a cs_ rf_ h0 n0 v U'.heap L ∧ FrameEnd U o U' L 0 0) := by
  refine MetFree.of_bodySF (plainFor_of_name pn_14) hisR ?_
  intro p e s m args below meth c s₁ Bd hml0 hP hK
  obtain ⟨rfl, hZ, hh⟩ := hP
  have hx := Bd.exec
  have hby := Bd.bytes
  have hml : c.maxLocals = 1 := hml0
  have hown : s.vm.findClass "java/lang/String" = some m.cls := findClass_of_methodNamed Bd.named
  have hnm := (name_of_methodNamed Bd.named Bd.method).1
  have X0 : Stand p l e ({ frames := 0, cells := 0, slots := 0, locals := 0 } : Room) s m #[(.ref a)] below meth c s₁ [] 0 0 := Stand.of_body Bd
  have e0 : s₁.heap = h0 := by rw [← hh, Bd.state]; rfl
  have N0 := Fr.nil n0
  show oE p.tables e below (own_P s (Q_rmIs0 Z a cs_ rf_ h0 n0) 0 0) _
  refine own_cast (ef_rmIs0 m a) ?_
  show oE _ _ _ _ (s₁.setTop (mkF m 0 #[.val (.ref a)] []))
  obtain ⟨T1, X1, e1, st1⟩ := getS2 X0 hx hZ hown (host := "") (Or.inl (ow46 hw)) Via.refl e0 (HS.1.ext O0.2) (g := (mkF m 0 #[.val (.ref a)] [])) rfl (hb hby d14_0)
  refine oT st1 ?_
  show oE _ _ _ _ (T1.setTop (mkF m 3 #[.val (.ref a)] [(.int cs_)]))
  refine oT (fun _ u => XS.ifNo X1.here hx rfl (hb hby d14_3) rfl ((if0 _ _).trans (feq HS.2.2.2.2.2.1).1) u) ?_
  show oE _ _ _ _ (T1.setTop (mkF m 6 #[.val (.ref a)] []))
  refine oT (fun _ u => XS.aloadN X1.here hx rfl (hb hby d14_6) rfl rfl u) ?_
  obtain ⟨T2, X2, e2, st2⟩ := getF X1 hx hZ hown (host := "") (Or.inl (ow31 hw)) Via.refl e1 F_c (g := (mkF m 7 #[.val (.ref a)] [(.ref a)])) rfl rfl (hb hby d14_7)
  refine oT st2 ?_
  show oE _ _ _ _ (T2.setTop (mkF m 10 #[.val (.ref a)] [(.int 0)]))
  refine oT (fun _ u => XS.ifNo X2.here hx rfl (hb hby d14_10) rfl ((if0 _ _).trans (teq (by decide)).2) u) ?_
  show oE _ _ _ _ (T2.setTop (mkF m 13 #[.val (.ref a)] []))
  refine oT (fun _ u => XS.iconst X2.here hx rfl (hb hby d14_13) u) ?_
  refine oT (fun _ u => XS.goto X2.here hx rfl (pc0 := 14) (pc' := 18) rfl (hb hby d14_14) (by decide) (by decide) u) ?_
  refine own_leave X2 (v := some (.int (1 : Int32))) (fun h => by rw [Bd.returns] at h; cases h) ?_ (by decide) (by decide) (fun fs hr => retN X2 hx (t := .boolean) Bd.returns (by simp) (hb hby d14_18) hr)
  show Q_rmIs0 Z a cs_ rf_ h0 n0 _ T2.heap _
  rw [e2]
  exact ⟨rfl, N0, rfl⟩
theorem ef_rmCo1 (m : MethodId) (a : Addr) : entryFrame m #[(.ref a)] 1 = mkF m 0 #[.val (.ref a)] [] := by first | (simp [entryFrame, mkF, argsToLocals, Value.category]; done) | rfl | (rcases ref_cases hrf with rfl | ⟨q, rfl⟩ <;> rfl)
def Q_rmCo1 (Z : State) (a : Addr) (cs_ : Int32) (rf_ : Value) (h0 : Heap) (n0 : Nat) (v : Option Value) (h : Heap) (L : List Loc) : Prop := v = some (.int (1 : Int32)) ∧ Fr n0 L ∧ h = h0
theorem rmCo1 (l : Launch) (Z : State) (a0 : Array Value) (hw : ∀ d ∈ tables_1, d.before a0 Z = true) (ws : List Jvm.Cond) (a : Addr) (cs_ : Int32) (rf_ : Value) (h0 : Heap) (n0 : Nat) (O0 : Old Z n0 h0) (HS : own_HS Z cs_ rf_) (F_c : Fld Z h0 a "java/lang/String" "coder" "B" (.int (1 : Int32))) :
    MetFree l oM17 (head1 (Jvm.Cond.code oM17 jdk_42_method_152_code 1 (some .byte) :: ws) ({ frames := 0, cells := 0, slots := 0, locals := 0 } : Room)) (fun aq_ U => aq_ = #[(.ref a)] ∧ Z.Warmed39 U.vm ∧ U.heap = h0) (fun _ _ _ _ _ => True) (fun _ U o U' => ∃ v L, o = .returned v ∧ Q_rmCo1 Z a cs_ rf_ h0 n0 v U'.heap L ∧ FrameEnd U o U' L 0 0) := by
  refine MetFree.of_bodySF (plainFor_of_name pn_8) hisR ?_
  intro p e s m args below meth c s₁ Bd hml0 hP hK
  obtain ⟨rfl, hZ, hh⟩ := hP
  have hx := Bd.exec
  have hby := Bd.bytes
  have hml : c.maxLocals = 1 := hml0
  have hown : s.vm.findClass "java/lang/String" = some m.cls := findClass_of_methodNamed Bd.named
  have hnm := (name_of_methodNamed Bd.named Bd.method).1
  have X0 : Stand p l e ({ frames := 0, cells := 0, slots := 0, locals := 0 } : Room) s m #[(.ref a)] below meth c s₁ [] 0 0 := Stand.of_body Bd
  have e0 : s₁.heap = h0 := by rw [← hh, Bd.state]; rfl
  have N0 := Fr.nil n0
  show oE p.tables e below (own_P s (Q_rmCo1 Z a cs_ rf_ h0 n0) 0 0) _
  refine own_cast (ef_rmCo1 m a) ?_
  show oE _ _ _ _ (s₁.setTop (mkF m 0 #[.val (.ref a)] []))
  obtain ⟨T1, X1, e1, st1⟩ := getS2 X0 hx hZ hown (host := "") (Or.inl (ow46 hw)) Via.refl e0 (HS.1.ext O0.2) (g := (mkF m 0 #[.val (.ref a)] [])) rfl (hb hby d8_0)
  refine oT st1 ?_
  show oE _ _ _ _ (T1.setTop (mkF m 3 #[.val (.ref a)] [(.int cs_)]))
  refine oT (fun _ u => XS.ifNo X1.here hx rfl (hb hby d8_3) rfl ((if0 _ _).trans (feq HS.2.2.2.2.2.1).1) u) ?_
  show oE _ _ _ _ (T1.setTop (mkF m 6 #[.val (.ref a)] []))
  refine oT (fun _ u => XS.aloadN X1.here hx rfl (hb hby d8_6) rfl rfl u) ?_
  obtain ⟨T2, X2, e2, st2⟩ := getF X1 hx hZ hown (host := "") (Or.inl (ow31 hw)) Via.refl e1 F_c (g := (mkF m 7 #[.val (.ref a)] [(.ref a)])) rfl rfl (hb hby d8_7)
  refine oT st2 ?_
  show oE _ _ _ _ (T2.setTop (mkF m 10 #[.val (.ref a)] [(.int 1)]))
  refine oT (fun _ u => XS.goto X2.here hx rfl (pc0 := 10) (pc' := 14) rfl (hb hby d8_10) (by decide) (by decide) u) ?_
  refine own_leave X2 (v := some (.int (1 : Int32))) (fun h => by rw [Bd.returns] at h; cases h) ?_ (by decide) (by decide) (fun fs hr => retN X2 hx (t := .byte) Bd.returns (by simp) (hb hby d8_14) hr)
  show Q_rmCo1 Z a cs_ rf_ h0 n0 _ T2.heap _
  rw [e2]
  exact ⟨rfl, N0, rfl⟩
theorem d14_17 : decode jdk_42_method_154_code 17 = .ok (.iconst 0, 1) := by decide +kernel
theorem ef_rmIs1 (m : MethodId) (a : Addr) : entryFrame m #[(.ref a)] 1 = mkF m 0 #[.val (.ref a)] [] := by first | (simp [entryFrame, mkF, argsToLocals, Value.category]; done) | rfl | (rcases ref_cases hrf with rfl | ⟨q, rfl⟩ <;> rfl)
def Q_rmIs1 (Z : State) (a : Addr) (cs_ : Int32) (rf_ : Value) (h0 : Heap) (n0 : Nat) (v : Option Value) (h : Heap) (L : List Loc) : Prop := v = some (.int (0 : Int32)) ∧ Fr n0 L ∧ h = h0
theorem rmIs1 (l : Launch) (Z : State) (a0 : Array Value) (hw : ∀ d ∈ tables_1, d.before a0 Z = true) (ws : List Jvm.Cond) (a : Addr) (cs_ : Int32) (rf_ : Value) (h0 : Heap) (n0 : Nat) (O0 : Old Z n0 h0) (HS : own_HS Z cs_ rf_) (F_c : Fld Z h0 a "java/lang/String" "coder" "B" (.int (1 : Int32))) :
    MetFree l oM18 (head1 (Jvm.Cond.code oM18 jdk_42_method_154_code 1 (some .boolean) :: ws) ({ frames := 0, cells := 0, slots := 0, locals := 0 } : Room)) (fun aq_ U => aq_ = #[(.ref a)] ∧ Z.Warmed39 U.vm ∧ U.heap = h0) (fun _ _ _ _ _ => True) (fun _ U o U' => ∃ v L, o = .returned v ∧ Q_rmIs1 Z a cs_ rf_ h0 n0 v U'.heap L ∧ FrameEnd U o U' L 0 0) := by
  refine MetFree.of_bodySF (plainFor_of_name pn_14) hisR ?_
  intro p e s m args below meth c s₁ Bd hml0 hP hK
  obtain ⟨rfl, hZ, hh⟩ := hP
  have hx := Bd.exec
  have hby := Bd.bytes
  have hml : c.maxLocals = 1 := hml0
  have hown : s.vm.findClass "java/lang/String" = some m.cls := findClass_of_methodNamed Bd.named
  have hnm := (name_of_methodNamed Bd.named Bd.method).1
  have X0 : Stand p l e ({ frames := 0, cells := 0, slots := 0, locals := 0 } : Room) s m #[(.ref a)] below meth c s₁ [] 0 0 := Stand.of_body Bd
  have e0 : s₁.heap = h0 := by rw [← hh, Bd.state]; rfl
  have N0 := Fr.nil n0
  show oE p.tables e below (own_P s (Q_rmIs1 Z a cs_ rf_ h0 n0) 0 0) _
  refine own_cast (ef_rmIs1 m a) ?_
  show oE _ _ _ _ (s₁.setTop (mkF m 0 #[.val (.ref a)] []))
  obtain ⟨T1, X1, e1, st1⟩ := getS2 X0 hx hZ hown (host := "") (Or.inl (ow46 hw)) Via.refl e0 (HS.1.ext O0.2) (g := (mkF m 0 #[.val (.ref a)] [])) rfl (hb hby d14_0)
  refine oT st1 ?_
  show oE _ _ _ _ (T1.setTop (mkF m 3 #[.val (.ref a)] [(.int cs_)]))
  refine oT (fun _ u => XS.ifNo X1.here hx rfl (hb hby d14_3) rfl ((if0 _ _).trans (feq HS.2.2.2.2.2.1).1) u) ?_
  show oE _ _ _ _ (T1.setTop (mkF m 6 #[.val (.ref a)] []))
  refine oT (fun _ u => XS.aloadN X1.here hx rfl (hb hby d14_6) rfl rfl u) ?_
  obtain ⟨T2, X2, e2, st2⟩ := getF X1 hx hZ hown (host := "") (Or.inl (ow31 hw)) Via.refl e1 F_c (g := (mkF m 7 #[.val (.ref a)] [(.ref a)])) rfl rfl (hb hby d14_7)
  refine oT st2 ?_
  show oE _ _ _ _ (T2.setTop (mkF m 10 #[.val (.ref a)] [(.int 1)]))
  refine oT (fun _ u => XS.ifYes X2.here hx rfl (pc0 := 10) (pc' := 17) rfl (hb hby d14_10) rfl ((if0 _ _).trans (feq (by decide)).2) (by decide) (by decide) u) ?_
  show oE _ _ _ _ (T2.setTop (mkF m 17 #[.val (.ref a)] []))
  refine oT (fun _ u => XS.iconst X2.here hx rfl (hb hby d14_17) u) ?_
  refine own_leave X2 (v := some (.int (0 : Int32))) (fun h => by rw [Bd.returns] at h; cases h) ?_ (by decide) (by decide) (fun fs hr => retN X2 hx (t := .boolean) Bd.returns (by simp) (hb hby d14_18) hr)
  show Q_rmIs1 Z a cs_ rf_ h0 n0 _ T2.heap _
  rw [e2]
  exact ⟨rfl, N0, rfl⟩
theorem d15_0 : decode jdk_43_method_2_code 0 = .ok (.iload_n 1, 1) := by decide +kernel
theorem d15_1 : decode jdk_43_method_2_code 1 = .ok (.aload_n 0, 1) := by decide +kernel
theorem d15_2 : decode jdk_43_method_2_code 2 = .ok (.arraylength, 1) := by decide +kernel
theorem d15_3 : decode jdk_43_method_2_code 3 = .ok (.invokestatic 9, 3) := by decide +kernel
theorem d15_6 : decode jdk_43_method_2_code 6 = .ok (.aload_n 0, 1) := by decide +kernel
theorem d15_7 : decode jdk_43_method_2_code 7 = .ok (.iload_n 1, 1) := by decide +kernel
theorem d15_8 : decode jdk_43_method_2_code 8 = .ok (.baload, 1) := by decide +kernel
theorem d15_9 : decode jdk_43_method_2_code 9 = .ok (.sipush 255, 3) := by decide +kernel
theorem d15_12 : decode jdk_43_method_2_code 12 = .ok (.iand, 1) := by decide +kernel
theorem d15_13 : decode jdk_43_method_2_code 13 = .ok (.i2c, 1) := by decide +kernel
theorem d15_14 : decode jdk_43_method_2_code 14 = .ok (.ireturn, 1) := by decide +kernel
theorem pn_15 : plainName "java/lang/StringLatin1" = true := by first | (simp [plainName, overriddenIn]; done) | decide +kernel
theorem pd_10 : parseMethodDescriptor "(II)V" = some ⟨[.int, .int], none⟩ := by decide +kernel
theorem ef_rmLA (m : MethodId) (da : Addr) (i : Int32) : entryFrame m #[(.ref da), (.int i)] 2 = mkF m 0 #[.val (.ref da), .val (.int i)] [] := by first | (simp [entryFrame, mkF, argsToLocals, Value.category]; done) | rfl | (rcases ref_cases hrf with rfl | ⟨q, rfl⟩ <;> rfl)
def Q_rmLA (Z : State) (da : Addr) (i : Int32) (cs_ : Int32) (rf_ : Value) (kd : ClassId) (z : Int32) (vs : List Value) (x : Int32) (h0 : Heap) (n0 : Nat) (v : Option Value) (h : Heap) (L : List Loc) : Prop := v = some (.int (nar .char ((x &&& (255 : Int32)).toUInt32.toUInt16.toUInt32.toInt32))) ∧ Fr n0 L ∧ h = h0
theorem rmLA (l : Launch) (Z : State) (a0 : Array Value) (hw : ∀ d ∈ tables_1, d.before a0 Z = true) (ws : List Jvm.Cond) (da : Addr) (i : Int32) (cs_ : Int32) (rf_ : Value) (kd : ClassId) (z : Int32) (vs : List Value) (x : Int32) (h0 : Heap) (n0 : Nat) (O0 : Old Z n0 h0) (HS : own_HS Z cs_ rf_) (V_d : Arv Z h0 da kd .byte z vs (.int (0 : Int32))) (p1 : ¬ i < 0 ∧ i < z) (gg1 : vs.getD (i).toNatClampNeg (.int (0 : Int32)) = .int x) :
    MetFree l oM19 (head1 (Jvm.Cond.code oM19 jdk_43_method_2_code 2 (some .char) :: ws) ({ frames := 2, cells := 0, slots := 0, locals := 30 } : Room)) (fun aq_ U => aq_ = #[(.ref da), (.int i)] ∧ Z.Warmed39 U.vm ∧ U.heap = h0) (fun _ _ _ _ _ => True) (fun _ U o U' => ∃ v L, o = .returned v ∧ Q_rmLA Z da i cs_ rf_ kd z vs x h0 n0 v U'.heap L ∧ FrameEnd U o U' L 0 0) := by
  refine MetFree.of_bodySF (plainFor_of_name pn_15) hisR ?_
  intro p e s m args below meth c s₁ Bd hml0 hP hK
  obtain ⟨rfl, hZ, hh⟩ := hP
  have hx := Bd.exec
  have hby := Bd.bytes
  have hml : c.maxLocals = 2 := hml0
  have hown : s.vm.findClass "java/lang/StringLatin1" = some m.cls := findClass_of_methodNamed Bd.named
  have hnm := (name_of_methodNamed Bd.named Bd.method).1
  have X0 : Stand p l e ({ frames := 2, cells := 0, slots := 0, locals := 30 } : Room) s m #[(.ref da), (.int i)] below meth c s₁ [] 0 0 := Stand.of_body Bd
  have e0 : s₁.heap = h0 := by rw [← hh, Bd.state]; rfl
  have N0 := Fr.nil n0
  show oE p.tables e below (own_P s (Q_rmLA Z da i cs_ rf_ kd z vs x h0 n0) 0 0) _
  refine own_cast (ef_rmLA m da i) ?_
  show oE _ _ _ _ (s₁.setTop (mkF m 0 #[.val (.ref da), .val (.int i)] []))
  refine oT (fun _ u => XS.iloadN X0.here hx rfl (hb hby d15_0) rfl u) ?_
  refine oT (fun _ u => XS.aloadN X0.here hx rfl (hb hby d15_1) rfl rfl u) ?_
  obtain ⟨cl1, Ar1, q1, S1, M1, -, -⟩ := id V_d
  refine oT (fun _ u => X0.arraylength hx (by rw [e0]; exact Ar1.1) (State.isArrayOf_alike hZ.alike Ar1.2.1) (g := (mkF m 2 #[.val (.ref da), .val (.int i)] [(.ref da), (.int i)])) rfl rfl (hb hby d15_2) _ u) ?_
  rw [len_of S1 M1]
  show oE _ _ _ _ (s₁.setTop (mkF m 3 #[.val (.ref da), .val (.int i)] [(.int z), (.int i)]))
  obtain ⟨_, _, ⟨T2, L2, k2, n2⟩, -, X2, ⟨Lc2, hQ2, l2, y2, z2⟩, st2⟩ := Jvm.LawKit.callS X0 hx (y := oM3) hown (mvT hZ (ow74 hw)) (mvT hZ (ow75 hw)) (mvT hZ (ow9 hw)) (mvT hZ (ow76 hw)) (by decide) (backOf (W := 0) (rmCI l Z a0 hw [] i z cs_ rf_ h0 n0 O0 HS p1.1 p1.2) hZ (ow76 hw) (ow9 hw) (by decide) (by decide)) (g := (mkF m 3 #[.val (.ref da), .val (.int i)] [(.int z), (.int i)])) rfl (by rw [hml]; rfl) (argsL := [(.int i), (.int z)]) (rest := []) (lenOf pd_10 rfl) rfl (by show 2 * 0 + _ ≤ _; exact Nat.le_of_eq rfl) (hb hby d15_3) (fun _ _ => ⟨rfl, e0, (own_le rfl), (own_le rfl)⟩)
  dsimp only [Pt.U, Pt.locs, Pt.cells, Pt.slots] at X2 l2 y2 z2 st2 hQ2
  subst y2 z2
  obtain ⟨rfl, N2q, E2⟩ := hQ2
  have N2 := own_fr l2 N0 N2q
  refine oT st2 ?_
  show oE _ _ _ _ (T2.setTop (mkF m 6 #[.val (.ref da), .val (.int i)] []))
  refine oT (fun _ u => XS.aloadN X2.here hx rfl (hb hby d15_6) rfl rfl u) ?_
  refine oT (fun _ u => XS.iloadN X2.here hx rfl (hb hby d15_7) rfl u) ?_
  obtain ⟨cl3, Ar3, q3, S3, M3, H3, G3⟩ := id V_d
  have hin3 : ¬ (i < 0 ∨ cl3.slots.size ≤ (i).toNatClampNeg) := inb_of S3 p1
  have hat3 : cl3.slots[(i).toNatClampNeg]? = some (.int x) := Has.at H3 hin3 gg1
  refine oT (fun _ u => X2.baloadBytes hx (j := i) (v := (.int x)) (by rw [E2]; exact Ar3.1) (State.isArrayOf_alike hZ.alike Ar3.2.1) Ar3.2.2 hin3 hat3 (g := (mkF m 8 #[.val (.ref da), .val (.int i)] [(.int i), (.ref da)])) rfl rfl (hb hby d15_8) _ u) ?_
  show oE _ _ _ _ (T2.setTop (mkF m 9 #[.val (.ref da), .val (.int i)] [(.int x)]))
  refine oT (fun _ u => XS.sipush X2.here hx rfl (hb hby d15_9) u) ?_
  refine oT (fun _ u => XS.iand X2.here hx rfl (hb hby d15_12) rfl u) ?_
  refine oT (fun _ u => XS.i2c X2.here hx rfl (hb hby d15_13) rfl u) ?_
  refine own_leave X2 (v := some (.int (nar .char ((x &&& (255 : Int32)).toUInt32.toUInt16.toUInt32.toInt32)))) (fun h => by rw [Bd.returns] at h; cases h) ?_ (by decide) (by decide) (fun fs hr => retN X2 hx (t := .char) Bd.returns (by simp) (hb hby d15_14) hr)
  show Q_rmLA Z da i cs_ rf_ kd z vs x h0 n0 _ T2.heap _
  rw [E2]
  exact ⟨rfl, N2, rfl⟩
theorem d27_0 : decode jdk_52_method_6_code 0 = .ok (.aload_n 0, 1) := by decide +kernel
theorem d27_1 : decode jdk_52_method_6_code 1 = .ok (.arraylength, 1) := by decide +kernel
theorem d27_2 : decode jdk_52_method_6_code 2 = .ok (.iconst 1, 1) := by decide +kernel
theorem d27_3 : decode jdk_52_method_6_code 3 = .ok (.ishr, 1) := by decide +kernel
theorem d27_4 : decode jdk_52_method_6_code 4 = .ok (.ireturn, 1) := by decide +kernel
theorem pn_27 : plainName "java/lang/StringUTF16" = true := by first | (simp [plainName, overriddenIn]; done) | decide +kernel
theorem ef_rmUL (m : MethodId) (da : Addr) : entryFrame m #[(.ref da)] 1 = mkF m 0 #[.val (.ref da)] [] := by first | (simp [entryFrame, mkF, argsToLocals, Value.category]; done) | rfl | (rcases ref_cases hrf with rfl | ⟨q, rfl⟩ <;> rfl)
def Q_rmUL (Z : State) (da : Addr) (cs_ : Int32) (rf_ : Value) (kd : ClassId) (z : Int32) (vs : List Value) (h0 : Heap) (n0 : Nat) (v : Option Value) (h : Heap) (L : List Loc) : Prop := v = some (.int (z >>> ((1 : Int32) &&& 31))) ∧ Fr n0 L ∧ h = h0
theorem rmUL (l : Launch) (Z : State) (a0 : Array Value) (hw : ∀ d ∈ tables_1, d.before a0 Z = true) (ws : List Jvm.Cond) (da : Addr) (cs_ : Int32) (rf_ : Value) (kd : ClassId) (z : Int32) (vs : List Value) (h0 : Heap) (n0 : Nat) (O0 : Old Z n0 h0) (V_d : Arv Z h0 da kd .byte z vs (.int (0 : Int32))) :
    MetFree l oM20 (head1 (Jvm.Cond.code oM20 jdk_52_method_6_code 1 (some .int) :: ws) ({ frames := 0, cells := 0, slots := 0, locals := 0 } : Room)) (fun aq_ U => aq_ = #[(.ref da)] ∧ Z.Warmed39 U.vm ∧ U.heap = h0) (fun _ _ _ _ _ => True) (fun _ U o U' => ∃ v L, o = .returned v ∧ Q_rmUL Z da cs_ rf_ kd z vs h0 n0 v U'.heap L ∧ FrameEnd U o U' L 0 0) := by
  refine MetFree.of_bodySF (plainFor_of_name pn_27) hisR ?_
  intro p e s m args below meth c s₁ Bd hml0 hP hK
  obtain ⟨rfl, hZ, hh⟩ := hP
  have hx := Bd.exec
  have hby := Bd.bytes
  have hml : c.maxLocals = 1 := hml0
  have hown : s.vm.findClass "java/lang/StringUTF16" = some m.cls := findClass_of_methodNamed Bd.named
  have hnm := (name_of_methodNamed Bd.named Bd.method).1
  have X0 : Stand p l e ({ frames := 0, cells := 0, slots := 0, locals := 0 } : Room) s m #[(.ref da)] below meth c s₁ [] 0 0 := Stand.of_body Bd
  have e0 : s₁.heap = h0 := by rw [← hh, Bd.state]; rfl
  have N0 := Fr.nil n0
  show oE p.tables e below (own_P s (Q_rmUL Z da cs_ rf_ kd z vs h0 n0) 0 0) _
  refine own_cast (ef_rmUL m da) ?_
  show oE _ _ _ _ (s₁.setTop (mkF m 0 #[.val (.ref da)] []))
  refine oT (fun _ u => XS.aloadN X0.here hx rfl (hb hby d27_0) rfl rfl u) ?_
  obtain ⟨cl1, Ar1, q1, S1, M1, -, -⟩ := id V_d
  refine oT (fun _ u => X0.arraylength hx (by rw [e0]; exact Ar1.1) (State.isArrayOf_alike hZ.alike Ar1.2.1) (g := (mkF m 1 #[.val (.ref da)] [(.ref da)])) rfl rfl (hb hby d27_1) _ u) ?_
  rw [len_of S1 M1]
  show oE _ _ _ _ (s₁.setTop (mkF m 2 #[.val (.ref da)] [(.int z)]))
  refine oT (fun _ u => XS.iconst X0.here hx rfl (hb hby d27_2) u) ?_
  refine oT (fun _ u => XS.ishr X0.here hx rfl (hb hby d27_3) rfl u) ?_
  show oE _ _ _ _ (s₁.setTop (mkF m 4 #[.val (.ref da)] [(.int (z >>> ((1 : Int32) &&& 31)))]))
  refine own_leave X0 (v := some (.int (z >>> ((1 : Int32) &&& 31)))) (fun h => by rw [Bd.returns] at h; cases h) ?_ (by decide) (by decide) (fun fs hr => retOut X0 hx Bd.returns rfl (Or.inl ⟨rfl, Or.inl rfl, _, rfl⟩) (hb hby d27_4) hr)
  show Q_rmUL Z da cs_ rf_ kd z vs h0 n0 _ s₁.heap _
  rw [e0]
  exact ⟨rfl, N0, rfl⟩
theorem d26_0 : decode jdk_52_method_91_code 0 = .ok (.iload_n 0, 1) := by decide +kernel
theorem d26_1 : decode jdk_52_method_91_code 1 = .ok (.aload_n 1, 1) := by decide +kernel
theorem d26_2 : decode jdk_52_method_91_code 2 = .ok (.invokestatic 48, 3) := by decide +kernel
theorem d26_5 : decode jdk_52_method_91_code 5 = .ok (.invokestatic 414, 3) := by decide +kernel
theorem d26_8 : decode jdk_52_method_91_code 8 = .ok (.return_, 1) := by decide +kernel
theorem pn_26 : plainName "java/lang/StringUTF16" = true := by first | (simp [plainName, overriddenIn]; done) | decide +kernel
theorem pd_11 : parseMethodDescriptor "([B)I" = some ⟨[(.array .byte)], some .int⟩ := by decide +kernel
theorem ef_rmUC (m : MethodId) (i : Int32) (da : Addr) : entryFrame m #[(.int i), (.ref da)] 2 = mkF m 0 #[.val (.int i), .val (.ref da)] [] := by first | (simp [entryFrame, mkF, argsToLocals, Value.category]; done) | rfl | (rcases ref_cases hrf with rfl | ⟨q, rfl⟩ <;> rfl)
def Q_rmUC (Z : State) (i : Int32) (da : Addr) (cs_ : Int32) (rf_ : Value) (kd : ClassId) (z : Int32) (vs : List Value) (h0 : Heap) (n0 : Nat) (v : Option Value) (h : Heap) (L : List Loc) : Prop := v = none ∧ Fr n0 L ∧ h = h0
theorem rmUC (l : Launch) (Z : State) (a0 : Array Value) (hw : ∀ d ∈ tables_1, d.before a0 Z = true) (ws : List Jvm.Cond) (i : Int32) (da : Addr) (cs_ : Int32) (rf_ : Value) (kd : ClassId) (z : Int32) (vs : List Value) (h0 : Heap) (n0 : Nat) (O0 : Old Z n0 h0) (HS : own_HS Z cs_ rf_) (V_d : Arv Z h0 da kd .byte z vs (.int (0 : Int32))) (qq1 : ¬ i < (0 : Int32) ∧ i < (z >>> ((1 : Int32) &&& 31))) :
    MetFree l oM21 (head1 (Jvm.Cond.code oM21 jdk_52_method_91_code 2 none :: ws) ({ frames := 2, cells := 0, slots := 0, locals := 30 } : Room)) (fun aq_ U => aq_ = #[(.int i), (.ref da)] ∧ Z.Warmed39 U.vm ∧ U.heap = h0) (fun _ _ _ _ _ => True) (fun _ U o U' => ∃ v L, o = .returned v ∧ Q_rmUC Z i da cs_ rf_ kd z vs h0 n0 v U'.heap L ∧ FrameEnd U o U' L 0 0) := by
  refine MetFree.of_bodySF (plainFor_of_name pn_26) hisR ?_
  intro p e s m args below meth c s₁ Bd hml0 hP hK
  obtain ⟨rfl, hZ, hh⟩ := hP
  have hx := Bd.exec
  have hby := Bd.bytes
  have hml : c.maxLocals = 2 := hml0
  have hown : s.vm.findClass "java/lang/StringUTF16" = some m.cls := findClass_of_methodNamed Bd.named
  have hnm := (name_of_methodNamed Bd.named Bd.method).1
  have X0 : Stand p l e ({ frames := 2, cells := 0, slots := 0, locals := 30 } : Room) s m #[(.int i), (.ref da)] below meth c s₁ [] 0 0 := Stand.of_body Bd
  have e0 : s₁.heap = h0 := by rw [← hh, Bd.state]; rfl
  have N0 := Fr.nil n0
  show oE p.tables e below (own_P s (Q_rmUC Z i da cs_ rf_ kd z vs h0 n0) 0 0) _
  refine own_cast (ef_rmUC m i da) ?_
  show oE _ _ _ _ (s₁.setTop (mkF m 0 #[.val (.int i), .val (.ref da)] []))
  refine oT (fun _ u => XS.iloadN X0.here hx rfl (hb hby d26_0) rfl u) ?_
  refine oT (fun _ u => XS.aloadN X0.here hx rfl (hb hby d26_1) rfl rfl u) ?_
  obtain ⟨_, _, ⟨T1, L1, k1, n1⟩, -, X1, ⟨Lc1, hQ1, l1, y1, z1⟩, st1⟩ := Jvm.LawKit.callS X0 hx (y := oM20) hown (mvT hZ (ow114 hw)) (mvT hZ (ow115 hw)) (mvT hZ (ow49 hw)) (mvT hZ (ow116 hw)) (by decide) (backOf (W := 1) (rmUL l Z a0 hw [] da cs_ rf_ kd z vs h0 n0 O0 V_d) hZ (ow116 hw) (ow49 hw) (by decide) (by decide)) (g := (mkF m 2 #[.val (.int i), .val (.ref da)] [(.ref da), (.int i)])) rfl (by rw [hml]; rfl) (argsL := [(.ref da)]) (rest := [(.int i)]) (lenOf pd_11 rfl) rfl (by show 2 * 0 + _ ≤ _; exact Nat.le_of_eq rfl) (hb hby d26_2) (fun _ _ => ⟨rfl, e0, (own_le rfl), (own_le rfl)⟩)
  dsimp only [Pt.U, Pt.locs, Pt.cells, Pt.slots] at X1 l1 y1 z1 st1 hQ1
  subst y1 z1
  obtain ⟨rfl, N1q, E1⟩ := hQ1
  have N1 := own_fr l1 N0 N1q
  refine oT st1 ?_
  show oE _ _ _ _ (T1.setTop (mkF m 5 #[.val (.int i), .val (.ref da)] [(.int (z >>> ((1 : Int32) &&& 31))), (.int i)]))
  obtain ⟨_, _, ⟨T2, L2, k2, n2⟩, -, X2, ⟨Lc2, hQ2, l2, y2, z2⟩, st2⟩ := Jvm.LawKit.callS X1 hx (y := oM3) hown (mvT hZ (ow117 hw)) (mvT hZ (ow75 hw)) (mvT hZ (ow9 hw)) (mvT hZ (ow76 hw)) (by decide) (backOf (W := 0) (rmCI l Z a0 hw [] i (z >>> ((1 : Int32) &&& 31)) cs_ rf_ h0 n0 O0 HS qq1.1 qq1.2) hZ (ow76 hw) (ow9 hw) (by decide) (by decide)) (g := (mkF m 5 #[.val (.int i), .val (.ref da)] [(.int (z >>> ((1 : Int32) &&& 31))), (.int i)])) rfl (by rw [hml]; rfl) (argsL := [(.int i), (.int (z >>> ((1 : Int32) &&& 31)))]) (rest := []) (lenOf pd_10 rfl) rfl (by show 2 * 0 + _ ≤ _; exact Nat.le_of_eq rfl) (hb hby d26_5) (fun _ _ => ⟨rfl, E1, (own_le rfl), (own_le rfl)⟩)
  dsimp only [Pt.U, Pt.locs, Pt.cells, Pt.slots] at X2 l2 y2 z2 st2 hQ2
  subst y2 z2
  obtain ⟨rfl, N2q, E2⟩ := hQ2
  have N2 := own_fr l2 N1 N2q
  refine oT st2 ?_
  show oE _ _ _ _ (T2.setTop (mkF m 8 #[.val (.int i), .val (.ref da)] []))
  refine own_leave X2 (v := none) (fun _ => rfl) ?_ (by decide) (by decide) (fun fs hr => X2.returnOut hx Bd.returns (hb hby d26_8) hr)
  show Q_rmUC Z i da cs_ rf_ kd z vs h0 n0 _ T2.heap _
  rw [E2]
  exact ⟨rfl, N2, rfl⟩
theorem own_gcn (x y : Int32) : nar .char (own_gc x y) = own_gc x y := own_nc (own_ch _)
theorem d25_0 : decode jdk_52_method_83_code 0 = .ok (.iload_n 1, 1) := by decide +kernel
theorem d25_1 : decode jdk_52_method_83_code 1 = .ok (.aload_n 0, 1) := by decide +kernel
theorem d25_2 : decode jdk_52_method_83_code 2 = .ok (.invokestatic 67, 3) := by decide +kernel
theorem d25_5 : decode jdk_52_method_83_code 5 = .ok (.aload_n 0, 1) := by decide +kernel
theorem d25_6 : decode jdk_52_method_83_code 6 = .ok (.iload_n 1, 1) := by decide +kernel
theorem d25_7 : decode jdk_52_method_83_code 7 = .ok (.invokestatic 71, 3) := by decide +kernel
theorem d25_10 : decode jdk_52_method_83_code 10 = .ok (.ireturn, 1) := by decide +kernel
theorem pn_25 : plainName "java/lang/StringUTF16" = true := by first | (simp [plainName, overriddenIn]; done) | decide +kernel
theorem pd_12 : parseMethodDescriptor "(I[B)V" = some ⟨[.int, (.array .byte)], none⟩ := by decide +kernel
theorem ef_rmUA (m : MethodId) (da : Addr) (i : Int32) : entryFrame m #[(.ref da), (.int i)] 2 = mkF m 0 #[.val (.ref da), .val (.int i)] [] := by first | (simp [entryFrame, mkF, argsToLocals, Value.category]; done) | rfl | (rcases ref_cases hrf with rfl | ⟨q, rfl⟩ <;> rfl)
def Q_rmUA (Z : State) (da : Addr) (i : Int32) (cs_ : Int32) (rf_ : Value) (kd : ClassId) (z : Int32) (vs : List Value) (x : Int32) (y : Int32) (h0 : Heap) (n0 : Nat) (v : Option Value) (h : Heap) (L : List Loc) : Prop := v = some (.int (own_gc x y)) ∧ Fr n0 L ∧ h = h0
theorem rmUA (l : Launch) (Z : State) (a0 : Array Value) (hw : ∀ d ∈ tables_1, d.before a0 Z = true) (ws : List Jvm.Cond) (da : Addr) (i : Int32) (cs_ : Int32) (rf_ : Value) (kd : ClassId) (z : Int32) (vs : List Value) (x : Int32) (y : Int32) (h0 : Heap) (n0 : Nat) (O0 : Old Z n0 h0) (HS : own_HS Z cs_ rf_) (V_d : Arv Z h0 da kd .byte z vs (.int (0 : Int32))) (qq1 : ¬ i < (0 : Int32) ∧ i < (z >>> ((1 : Int32) &&& 31))) (p1 : ¬ (i <<< ((1 : Int32) &&& 31)) < 0 ∧ (i <<< ((1 : Int32) &&& 31)) < z) (p2 : ¬ ((i <<< ((1 : Int32) &&& 31)) + (1 : Int32)) < 0 ∧ ((i <<< ((1 : Int32) &&& 31)) + (1 : Int32)) < z) (gg1 : vs.getD ((i <<< ((1 : Int32) &&& 31))).toNatClampNeg (.int (0 : Int32)) = .int x) (gg2 : vs.getD (((i <<< ((1 : Int32) &&& 31)) + (1 : Int32))).toNatClampNeg (.int (0 : Int32)) = .int y) :
    MetFree l oM22 (head1 (Jvm.Cond.code oM22 jdk_52_method_83_code 2 (some .char) :: ws) ({ frames := 3, cells := 0, slots := 0, locals := 46 } : Room)) (fun aq_ U => aq_ = #[(.ref da), (.int i)] ∧ Z.Warmed39 U.vm ∧ U.heap = h0) (fun _ _ _ _ _ => True) (fun _ U o U' => ∃ v L, o = .returned v ∧ Q_rmUA Z da i cs_ rf_ kd z vs x y h0 n0 v U'.heap L ∧ FrameEnd U o U' L 0 0) := by
  refine MetFree.of_bodySF (plainFor_of_name pn_25) hisR ?_
  intro p e s m args below meth c s₁ Bd hml0 hP hK
  obtain ⟨rfl, hZ, hh⟩ := hP
  have hx := Bd.exec
  have hby := Bd.bytes
  have hml : c.maxLocals = 2 := hml0
  have hown : s.vm.findClass "java/lang/StringUTF16" = some m.cls := findClass_of_methodNamed Bd.named
  have hnm := (name_of_methodNamed Bd.named Bd.method).1
  have X0 : Stand p l e ({ frames := 3, cells := 0, slots := 0, locals := 46 } : Room) s m #[(.ref da), (.int i)] below meth c s₁ [] 0 0 := Stand.of_body Bd
  have e0 : s₁.heap = h0 := by rw [← hh, Bd.state]; rfl
  have N0 := Fr.nil n0
  show oE p.tables e below (own_P s (Q_rmUA Z da i cs_ rf_ kd z vs x y h0 n0) 0 0) _
  refine own_cast (ef_rmUA m da i) ?_
  show oE _ _ _ _ (s₁.setTop (mkF m 0 #[.val (.ref da), .val (.int i)] []))
  refine oT (fun _ u => XS.iloadN X0.here hx rfl (hb hby d25_0) rfl u) ?_
  refine oT (fun _ u => XS.aloadN X0.here hx rfl (hb hby d25_1) rfl rfl u) ?_
  obtain ⟨_, _, ⟨T1, L1, k1, n1⟩, -, X1, ⟨Lc1, hQ1, l1, y1, z1⟩, st1⟩ := Jvm.LawKit.callS X0 hx (y := oM21) hown (mvT hZ (ow111 hw)) (mvT hZ (ow112 hw)) (mvT hZ (ow49 hw)) (mvT hZ (ow113 hw)) (by decide) (backOf (W := 0) (rmUC l Z a0 hw [] i da cs_ rf_ kd z vs h0 n0 O0 HS V_d qq1) hZ (ow113 hw) (ow49 hw) (by decide) (by decide)) (g := (mkF m 2 #[.val (.ref da), .val (.int i)] [(.ref da), (.int i)])) rfl (by rw [hml]; rfl) (argsL := [(.int i), (.ref da)]) (rest := []) (lenOf pd_12 rfl) rfl (by show 2 * 0 + _ ≤ _; exact Nat.le_of_eq rfl) (hb hby d25_2) (fun _ _ => ⟨rfl, e0, (own_le rfl), (own_le rfl)⟩)
  dsimp only [Pt.U, Pt.locs, Pt.cells, Pt.slots] at X1 l1 y1 z1 st1 hQ1
  subst y1 z1
  obtain ⟨rfl, N1q, E1⟩ := hQ1
  have N1 := own_fr l1 N0 N1q
  refine oT st1 ?_
  show oE _ _ _ _ (T1.setTop (mkF m 5 #[.val (.ref da), .val (.int i)] []))
  refine oT (fun _ u => XS.aloadN X1.here hx rfl (hb hby d25_5) rfl rfl u) ?_
  refine oT (fun _ u => XS.iloadN X1.here hx rfl (hb hby d25_6) rfl u) ?_
  obtain ⟨_, _, ⟨T2, L2, k2, n2⟩, -, X2, ⟨Lc2, hQ2, l2, y2, z2⟩, st2⟩ := Jvm.LawKit.callS X1 hx (y := oM8) hown (mvT hZ (ow105 hw)) (mvT hZ (ow106 hw)) (mvT hZ (ow49 hw)) (mvT hZ (ow107 hw)) (by decide) (backOf (W := 0) (rmGC l Z a0 hw [] da i cs_ rf_ kd z vs x y h0 n0 O0 HS V_d p1 p2 gg1 gg2) hZ (ow107 hw) (ow49 hw) (by decide) (by decide)) (g := (mkF m 7 #[.val (.ref da), .val (.int i)] [(.int i), (.ref da)])) rfl (by rw [hml]; rfl) (argsL := [(.ref da), (.int i)]) (rest := []) (lenOf pd_7 rfl) rfl (by show 2 * 0 + _ ≤ _; exact Nat.le_of_eq rfl) (hb hby d25_7) (fun _ _ => ⟨rfl, E1, (own_le rfl), (own_le rfl)⟩)
  dsimp only [Pt.U, Pt.locs, Pt.cells, Pt.slots] at X2 l2 y2 z2 st2 hQ2
  subst y2 z2
  obtain ⟨rfl, N2q, E2⟩ := hQ2
  have N2 := own_fr l2 N1 N2q
  refine oT st2 ?_
  show oE _ _ _ _ (T2.setTop (mkF m 10 #[.val (.ref da), .val (.int i)] [(.int (own_gc x y))]))
  refine own_leave X2 (v := some (.int (nar .char (own_gc x y)))) (fun h => by rw [Bd.returns] at h; cases h) ?_ (by decide) (by decide) (fun fs hr => retN X2 hx (t := .char) Bd.returns (by simp) (hb hby d25_10) hr)
  show Q_rmUA Z da i cs_ rf_ kd z vs x y h0 n0 _ T2.heap _
  rw [E2]
  exact ⟨by rw [own_gcn], N2, rfl⟩
theorem own_nn2 (x : Int32) : nar .char (nar .char x) = nar .char x := own_nc (own_ch _)
theorem d13_0 : decode jdk_42_method_56_code 0 = .ok (.aload_n 0, 1) := by decide +kernel
theorem d13_1 : decode jdk_42_method_56_code 1 = .ok (.invokevirtual 492, 3) := by decide +kernel
theorem d13_4 : decode jdk_42_method_56_code 4 = .ok (.ifCond .eq 12, 3) := by decide +kernel
theorem d13_7 : decode jdk_42_method_56_code 7 = .ok (.aload_n 0, 1) := by decide +kernel
theorem d13_8 : decode jdk_42_method_56_code 8 = .ok (.getfield 9, 3) := by decide +kernel
theorem d13_11 : decode jdk_42_method_56_code 11 = .ok (.iload_n 1, 1) := by decide +kernel
theorem d13_12 : decode jdk_42_method_56_code 12 = .ok (.invokestatic 495, 3) := by decide +kernel
theorem d13_15 : decode jdk_42_method_56_code 15 = .ok (.ireturn, 1) := by decide +kernel
theorem pn_13 : plainName "java/lang/String" = true := by first | (simp [plainName, overriddenIn]; done) | decide +kernel
theorem pd_13 : parseMethodDescriptor "()Z" = some ⟨[], some .boolean⟩ := by decide +kernel
theorem ef_rmAL (m : MethodId) (a : Addr) (i : Int32) : entryFrame m #[(.ref a), (.int i)] 2 = mkF m 0 #[.val (.ref a), .val (.int i)] [] := by first | (simp [entryFrame, mkF, argsToLocals, Value.category]; done) | rfl | (rcases ref_cases hrf with rfl | ⟨q, rfl⟩ <;> rfl)
def Q_rmAL (Z : State) (a : Addr) (i : Int32) (cs_ : Int32) (rf_ : Value) (b : Addr) (kd : ClassId) (z : Int32) (vs : List Value) (x : Int32) (h0 : Heap) (n0 : Nat) (v : Option Value) (h : Heap) (L : List Loc) : Prop := v = some (.int (nar .char ((x &&& (255 : Int32)).toUInt32.toUInt16.toUInt32.toInt32))) ∧ Fr n0 L ∧ h = h0
theorem rmAL (l : Launch) (Z : State) (a0 : Array Value) (hw : ∀ d ∈ tables_1, d.before a0 Z = true) (ws : List Jvm.Cond) (a : Addr) (i : Int32) (cs_ : Int32) (rf_ : Value) (b : Addr) (kd : ClassId) (z : Int32) (vs : List Value) (x : Int32) (h0 : Heap) (n0 : Nat) (O0 : Old Z n0 h0) (HS : own_HS Z cs_ rf_) (HT : Exa Z h0 a "java/lang/String" ∧ Fld Z h0 a "java/lang/String" "coder" "B" (.int (0 : Int32)) ∧ Fld Z h0 a "java/lang/String" "value" "[B" (.ref b) ∧ Arv Z h0 b kd .byte z vs (.int (0 : Int32))) (p1 : ¬ i < 0 ∧ i < z) (gg1 : vs.getD (i).toNatClampNeg (.int (0 : Int32)) = .int x) :
    MetFree l oM23 (head1 (Jvm.Cond.code oM23 jdk_42_method_56_code 2 (some .char) :: ws) ({ frames := 4, cells := 0, slots := 0, locals := 66 } : Room)) (fun aq_ U => aq_ = #[(.ref a), (.int i)] ∧ Z.Warmed39 U.vm ∧ U.heap = h0) (fun _ _ _ _ _ => True) (fun _ U o U' => ∃ v L, o = .returned v ∧ Q_rmAL Z a i cs_ rf_ b kd z vs x h0 n0 v U'.heap L ∧ FrameEnd U o U' L 0 0) := by
  refine MetFree.of_bodySF (plainFor_of_name pn_13) hisR ?_
  intro p e s m args below meth c s₁ Bd hml0 hP hK
  obtain ⟨rfl, hZ, hh⟩ := hP
  have hx := Bd.exec
  have hby := Bd.bytes
  have hml : c.maxLocals = 2 := hml0
  have hown : s.vm.findClass "java/lang/String" = some m.cls := findClass_of_methodNamed Bd.named
  have hnm := (name_of_methodNamed Bd.named Bd.method).1
  have X0 : Stand p l e ({ frames := 4, cells := 0, slots := 0, locals := 66 } : Room) s m #[(.ref a), (.int i)] below meth c s₁ [] 0 0 := Stand.of_body Bd
  have e0 : s₁.heap = h0 := by rw [← hh, Bd.state]; rfl
  have N0 := Fr.nil n0
  show oE p.tables e below (own_P s (Q_rmAL Z a i cs_ rf_ b kd z vs x h0 n0) 0 0) _
  refine own_cast (ef_rmAL m a i) ?_
  show oE _ _ _ _ (s₁.setTop (mkF m 0 #[.val (.ref a), .val (.int i)] []))
  refine oT (fun _ u => XS.aloadN X0.here hx rfl (hb hby d13_0) rfl rfl u) ?_
  obtain ⟨cq1, kq1, q1a, q1b, q1c⟩ := isOf hZ e0 HT.1
  obtain ⟨_, _, ⟨T1, L1, k1, n1⟩, -, X1, ⟨Lc1, hQ1, l1, y1, z1⟩, st1⟩ := X0.virtualBack hx (y := oM18) (z := oM18) hown (mvT hZ (ow65 hw)) (mvT hZ (ow66 hw)) (notFace_of_selects (args := #[]) (mvT hZ (ow68 hw))) (mvT hZ (ow68 hw)) (mvT hZ (ow67 hw)) (by decide) (backOf (W := 0) (rmIs0 l Z a0 hw [] a cs_ rf_ h0 n0 O0 HS HT.2.1) hZ (ow69 hw) (ow9 hw) (by decide) (by decide)) q1a q1c (g := (mkF m 1 #[.val (.ref a), .val (.int i)] [(.ref a)])) rfl (by rw [hml]; rfl) (Steps.refl _) (argsL := []) (rest := []) (lenOf pd_13 rfl) rfl (by show 2 * 0 + _ ≤ _; exact Nat.le_of_eq rfl) (hb hby d13_1) (fun _ _ => ⟨rfl, e0, (own_le rfl), (own_le rfl)⟩)
  dsimp only [Pt.U, Pt.locs, Pt.cells, Pt.slots] at X1 l1 y1 z1 st1 hQ1
  subst y1 z1
  obtain ⟨rfl, N1q, E1⟩ := hQ1
  have N1 := own_fr l1 N0 N1q
  refine own_tr st1 ?_
  show oE _ _ _ _ (T1.setTop (mkF m 4 #[.val (.ref a), .val (.int i)] [(.int 1)]))
  refine oT (fun _ u => XS.ifNo X1.here hx rfl (hb hby d13_4) rfl ((if0 _ _).trans (feq (by decide)).1) u) ?_
  show oE _ _ _ _ (T1.setTop (mkF m 7 #[.val (.ref a), .val (.int i)] []))
  refine oT (fun _ u => XS.aloadN X1.here hx rfl (hb hby d13_7) rfl rfl u) ?_
  obtain ⟨T2, X2, e2, st2⟩ := getF X1 hx hZ hown (host := "") (Or.inl (ow30 hw)) Via.refl E1 HT.2.2.1 (g := (mkF m 8 #[.val (.ref a), .val (.int i)] [(.ref a)])) rfl rfl (hb hby d13_8)
  refine oT st2 ?_
  show oE _ _ _ _ (T2.setTop (mkF m 11 #[.val (.ref a), .val (.int i)] [(.ref b)]))
  refine oT (fun _ u => XS.iloadN X2.here hx rfl (hb hby d13_11) rfl u) ?_
  obtain ⟨_, _, ⟨T3, L3, k3, n3⟩, -, X3, ⟨Lc3, hQ3, l3, y3, z3⟩, st3⟩ := Jvm.LawKit.callS X2 hx (y := oM19) hown (mvT hZ (ow70 hw)) (mvT hZ (ow71 hw)) (mvT hZ (ow72 hw)) (mvT hZ (ow73 hw)) (by decide) (backOf (W := 0) (rmLA l Z a0 hw [] b i cs_ rf_ kd z vs x h0 n0 O0 HS HT.2.2.2 p1 gg1) hZ (ow73 hw) (ow72 hw) (by decide) (by decide)) (g := (mkF m 12 #[.val (.ref a), .val (.int i)] [(.int i), (.ref b)])) rfl (by rw [hml]; rfl) (argsL := [(.ref b), (.int i)]) (rest := []) (lenOf pd_7 rfl) rfl (by show 2 * 0 + _ ≤ _; exact Nat.le_of_eq rfl) (hb hby d13_12) (fun _ _ => ⟨rfl, e2, (own_le rfl), (own_le rfl)⟩)
  dsimp only [Pt.U, Pt.locs, Pt.cells, Pt.slots] at X3 l3 y3 z3 st3 hQ3
  subst y3 z3
  obtain ⟨rfl, N3q, E3⟩ := hQ3
  have N3 := own_fr l3 N1 N3q
  refine oT st3 ?_
  show oE _ _ _ _ (T3.setTop (mkF m 15 #[.val (.ref a), .val (.int i)] [(.int (nar .char ((x &&& (255 : Int32)).toUInt32.toUInt16.toUInt32.toInt32)))]))
  refine own_leave X3 (v := some (.int (nar .char (nar .char ((x &&& (255 : Int32)).toUInt32.toUInt16.toUInt32.toInt32))))) (fun h => by rw [Bd.returns] at h; cases h) ?_ (by decide) (by decide) (fun fs hr => retN X3 hx (t := .char) Bd.returns (by simp) (hb hby d13_15) hr)
  show Q_rmAL Z a i cs_ rf_ b kd z vs x h0 n0 _ T3.heap _
  rw [E3]
  exact ⟨by rw [own_nn2], N3, rfl⟩
theorem d13_16 : decode jdk_42_method_56_code 16 = .ok (.aload_n 0, 1) := by decide +kernel
theorem d13_17 : decode jdk_42_method_56_code 17 = .ok (.getfield 9, 3) := by decide +kernel
theorem d13_20 : decode jdk_42_method_56_code 20 = .ok (.iload_n 1, 1) := by decide +kernel
theorem d13_21 : decode jdk_42_method_56_code 21 = .ok (.invokestatic 498, 3) := by decide +kernel
theorem d13_24 : decode jdk_42_method_56_code 24 = .ok (.ireturn, 1) := by decide +kernel
theorem ef_rmAU (m : MethodId) (a : Addr) (i : Int32) : entryFrame m #[(.ref a), (.int i)] 2 = mkF m 0 #[.val (.ref a), .val (.int i)] [] := by first | (simp [entryFrame, mkF, argsToLocals, Value.category]; done) | rfl | (rcases ref_cases hrf with rfl | ⟨q, rfl⟩ <;> rfl)
def Q_rmAU (Z : State) (a : Addr) (i : Int32) (cs_ : Int32) (rf_ : Value) (b : Addr) (kd : ClassId) (z : Int32) (vs : List Value) (x : Int32) (y : Int32) (h0 : Heap) (n0 : Nat) (v : Option Value) (h : Heap) (L : List Loc) : Prop := v = some (.int (own_gc x y)) ∧ Fr n0 L ∧ h = h0
theorem rmAU (l : Launch) (Z : State) (a0 : Array Value) (hw : ∀ d ∈ tables_1, d.before a0 Z = true) (ws : List Jvm.Cond) (a : Addr) (i : Int32) (cs_ : Int32) (rf_ : Value) (b : Addr) (kd : ClassId) (z : Int32) (vs : List Value) (x : Int32) (y : Int32) (h0 : Heap) (n0 : Nat) (O0 : Old Z n0 h0) (HS : own_HS Z cs_ rf_) (HT : Exa Z h0 a "java/lang/String" ∧ Fld Z h0 a "java/lang/String" "coder" "B" (.int (1 : Int32)) ∧ Fld Z h0 a "java/lang/String" "value" "[B" (.ref b) ∧ Arv Z h0 b kd .byte z vs (.int (0 : Int32))) (qq1 : ¬ i < (0 : Int32) ∧ i < (z >>> ((1 : Int32) &&& 31))) (p1 : ¬ (i <<< ((1 : Int32) &&& 31)) < 0 ∧ (i <<< ((1 : Int32) &&& 31)) < z) (p2 : ¬ ((i <<< ((1 : Int32) &&& 31)) + (1 : Int32)) < 0 ∧ ((i <<< ((1 : Int32) &&& 31)) + (1 : Int32)) < z) (gg1 : vs.getD ((i <<< ((1 : Int32) &&& 31))).toNatClampNeg (.int (0 : Int32)) = .int x) (gg2 : vs.getD (((i <<< ((1 : Int32) &&& 31)) + (1 : Int32))).toNatClampNeg (.int (0 : Int32)) = .int y) :
    MetFree l oM23 (head1 (Jvm.Cond.code oM23 jdk_42_method_56_code 2 (some .char) :: ws) ({ frames := 4, cells := 0, slots := 0, locals := 66 } : Room)) (fun aq_ U => aq_ = #[(.ref a), (.int i)] ∧ Z.Warmed39 U.vm ∧ U.heap = h0) (fun _ _ _ _ _ => True) (fun _ U o U' => ∃ v L, o = .returned v ∧ Q_rmAU Z a i cs_ rf_ b kd z vs x y h0 n0 v U'.heap L ∧ FrameEnd U o U' L 0 0) := by
  refine MetFree.of_bodySF (plainFor_of_name pn_13) hisR ?_
  intro p e s m args below meth c s₁ Bd hml0 hP hK
  obtain ⟨rfl, hZ, hh⟩ := hP
  have hx := Bd.exec
  have hby := Bd.bytes
  have hml : c.maxLocals = 2 := hml0
  have hown : s.vm.findClass "java/lang/String" = some m.cls := findClass_of_methodNamed Bd.named
  have hnm := (name_of_methodNamed Bd.named Bd.method).1
  have X0 : Stand p l e ({ frames := 4, cells := 0, slots := 0, locals := 66 } : Room) s m #[(.ref a), (.int i)] below meth c s₁ [] 0 0 := Stand.of_body Bd
  have e0 : s₁.heap = h0 := by rw [← hh, Bd.state]; rfl
  have N0 := Fr.nil n0
  show oE p.tables e below (own_P s (Q_rmAU Z a i cs_ rf_ b kd z vs x y h0 n0) 0 0) _
  refine own_cast (ef_rmAU m a i) ?_
  show oE _ _ _ _ (s₁.setTop (mkF m 0 #[.val (.ref a), .val (.int i)] []))
  refine oT (fun _ u => XS.aloadN X0.here hx rfl (hb hby d13_0) rfl rfl u) ?_
  obtain ⟨cq1, kq1, q1a, q1b, q1c⟩ := isOf hZ e0 HT.1
  obtain ⟨_, _, ⟨T1, L1, k1, n1⟩, -, X1, ⟨Lc1, hQ1, l1, y1, z1⟩, st1⟩ := X0.virtualBack hx (y := oM18) (z := oM18) hown (mvT hZ (ow65 hw)) (mvT hZ (ow66 hw)) (notFace_of_selects (args := #[]) (mvT hZ (ow68 hw))) (mvT hZ (ow68 hw)) (mvT hZ (ow67 hw)) (by decide) (backOf (W := 0) (rmIs1 l Z a0 hw [] a cs_ rf_ h0 n0 O0 HS HT.2.1) hZ (ow69 hw) (ow9 hw) (by decide) (by decide)) q1a q1c (g := (mkF m 1 #[.val (.ref a), .val (.int i)] [(.ref a)])) rfl (by rw [hml]; rfl) (Steps.refl _) (argsL := []) (rest := []) (lenOf pd_13 rfl) rfl (by show 2 * 0 + _ ≤ _; exact Nat.le_of_eq rfl) (hb hby d13_1) (fun _ _ => ⟨rfl, e0, (own_le rfl), (own_le rfl)⟩)
  dsimp only [Pt.U, Pt.locs, Pt.cells, Pt.slots] at X1 l1 y1 z1 st1 hQ1
  subst y1 z1
  obtain ⟨rfl, N1q, E1⟩ := hQ1
  have N1 := own_fr l1 N0 N1q
  refine own_tr st1 ?_
  show oE _ _ _ _ (T1.setTop (mkF m 4 #[.val (.ref a), .val (.int i)] [(.int 0)]))
  refine oT (fun _ u => XS.ifYes X1.here hx rfl (pc0 := 4) (pc' := 16) rfl (hb hby d13_4) rfl ((if0 _ _).trans (teq (by decide)).1) (by decide) (by decide) u) ?_
  show oE _ _ _ _ (T1.setTop (mkF m 16 #[.val (.ref a), .val (.int i)] []))
  refine oT (fun _ u => XS.aloadN X1.here hx rfl (hb hby d13_16) rfl rfl u) ?_
  obtain ⟨T2, X2, e2, st2⟩ := getF X1 hx hZ hown (host := "") (Or.inl (ow30 hw)) Via.refl E1 HT.2.2.1 (g := (mkF m 17 #[.val (.ref a), .val (.int i)] [(.ref a)])) rfl rfl (hb hby d13_17)
  refine oT st2 ?_
  show oE _ _ _ _ (T2.setTop (mkF m 20 #[.val (.ref a), .val (.int i)] [(.ref b)]))
  refine oT (fun _ u => XS.iloadN X2.here hx rfl (hb hby d13_20) rfl u) ?_
  obtain ⟨_, _, ⟨T3, L3, k3, n3⟩, -, X3, ⟨Lc3, hQ3, l3, y3, z3⟩, st3⟩ := Jvm.LawKit.callS X2 hx (y := oM22) hown (mvT hZ (ow108 hw)) (mvT hZ (ow109 hw)) (mvT hZ (ow49 hw)) (mvT hZ (ow110 hw)) (by decide) (backOf (W := 0) (rmUA l Z a0 hw [] b i cs_ rf_ kd z vs x y h0 n0 O0 HS HT.2.2.2 qq1 p1 p2 gg1 gg2) hZ (ow110 hw) (ow49 hw) (by decide) (by decide)) (g := (mkF m 21 #[.val (.ref a), .val (.int i)] [(.int i), (.ref b)])) rfl (by rw [hml]; rfl) (argsL := [(.ref b), (.int i)]) (rest := []) (lenOf pd_7 rfl) rfl (by show 2 * 0 + _ ≤ _; exact Nat.le_of_eq rfl) (hb hby d13_21) (fun _ _ => ⟨rfl, e2, (own_le rfl), (own_le rfl)⟩)
  dsimp only [Pt.U, Pt.locs, Pt.cells, Pt.slots] at X3 l3 y3 z3 st3 hQ3
  subst y3 z3
  obtain ⟨rfl, N3q, E3⟩ := hQ3
  have N3 := own_fr l3 N1 N3q
  refine oT st3 ?_
  show oE _ _ _ _ (T3.setTop (mkF m 24 #[.val (.ref a), .val (.int i)] [(.int (own_gc x y))]))
  refine own_leave X3 (v := some (.int (nar .char (own_gc x y)))) (fun h => by rw [Bd.returns] at h; cases h) ?_ (by decide) (by decide) (fun fs hr => retN X3 hx (t := .char) Bd.returns (by simp) (hb hby d13_24) hr)
  show Q_rmAU Z a i cs_ rf_ b kd z vs x y h0 n0 _ T3.heap _
  rw [E3]
  exact ⟨by rw [own_gcn], N3, rfl⟩
theorem d7_0 : decode jdk_42_method_54_code 0 = .ok (.aload_n 0, 1) := by decide +kernel
theorem d7_1 : decode jdk_42_method_54_code 1 = .ok (.getfield 9, 3) := by decide +kernel
theorem d7_4 : decode jdk_42_method_54_code 4 = .ok (.arraylength, 1) := by decide +kernel
theorem d7_5 : decode jdk_42_method_54_code 5 = .ok (.aload_n 0, 1) := by decide +kernel
theorem d7_6 : decode jdk_42_method_54_code 6 = .ok (.invokevirtual 335, 3) := by decide +kernel
theorem d7_9 : decode jdk_42_method_54_code 9 = .ok (.ishr, 1) := by decide +kernel
theorem d7_10 : decode jdk_42_method_54_code 10 = .ok (.ireturn, 1) := by decide +kernel
theorem pn_7 : plainName "java/lang/String" = true := by first | (simp [plainName, overriddenIn]; done) | decide +kernel
theorem pd_14 : parseMethodDescriptor "()B" = some ⟨[], some .byte⟩ := by decide +kernel
theorem ef_rmLen0 (m : MethodId) (a : Addr) : entryFrame m #[(.ref a)] 1 = mkF m 0 #[.val (.ref a)] [] := by first | (simp [entryFrame, mkF, argsToLocals, Value.category]; done) | rfl | (rcases ref_cases hrf with rfl | ⟨q, rfl⟩ <;> rfl)
def Q_rmLen0 (Z : State) (a : Addr) (cs_ : Int32) (rf_ : Value) (b : Addr) (kd : ClassId) (z : Int32) (vs : List Value) (h0 : Heap) (n0 : Nat) (v : Option Value) (h : Heap) (L : List Loc) : Prop := v = some (.int (z >>> ((0 : Int32) &&& 31))) ∧ Fr n0 L ∧ h = h0
theorem rmLen0 (l : Launch) (Z : State) (a0 : Array Value) (hw : ∀ d ∈ tables_1, d.before a0 Z = true) (ws : List Jvm.Cond) (a : Addr) (cs_ : Int32) (rf_ : Value) (b : Addr) (kd : ClassId) (z : Int32) (vs : List Value) (h0 : Heap) (n0 : Nat) (O0 : Old Z n0 h0) (HS : own_HS Z cs_ rf_) (HT : Exa Z h0 a "java/lang/String" ∧ Fld Z h0 a "java/lang/String" "coder" "B" (.int (0 : Int32)) ∧ Fld Z h0 a "java/lang/String" "value" "[B" (.ref b) ∧ Arv Z h0 b kd .byte z vs (.int (0 : Int32))) :
    MetFree l oM24 (head1 (Jvm.Cond.code oM24 jdk_42_method_54_code 1 (some .int) :: ws) ({ frames := 1, cells := 0, slots := 0, locals := 14 } : Room)) (fun aq_ U => aq_ = #[(.ref a)] ∧ Z.Warmed39 U.vm ∧ U.heap = h0) (fun _ _ _ _ _ => True) (fun _ U o U' => ∃ v L, o = .returned v ∧ Q_rmLen0 Z a cs_ rf_ b kd z vs h0 n0 v U'.heap L ∧ FrameEnd U o U' L 0 0) := by
  refine MetFree.of_bodySF (plainFor_of_name pn_7) hisR ?_
  intro p e s m args below meth c s₁ Bd hml0 hP hK
  obtain ⟨rfl, hZ, hh⟩ := hP
  have hx := Bd.exec
  have hby := Bd.bytes
  have hml : c.maxLocals = 1 := hml0
  have hown : s.vm.findClass "java/lang/String" = some m.cls := findClass_of_methodNamed Bd.named
  have hnm := (name_of_methodNamed Bd.named Bd.method).1
  have X0 : Stand p l e ({ frames := 1, cells := 0, slots := 0, locals := 14 } : Room) s m #[(.ref a)] below meth c s₁ [] 0 0 := Stand.of_body Bd
  have e0 : s₁.heap = h0 := by rw [← hh, Bd.state]; rfl
  have N0 := Fr.nil n0
  show oE p.tables e below (own_P s (Q_rmLen0 Z a cs_ rf_ b kd z vs h0 n0) 0 0) _
  refine own_cast (ef_rmLen0 m a) ?_
  show oE _ _ _ _ (s₁.setTop (mkF m 0 #[.val (.ref a)] []))
  refine oT (fun _ u => XS.aloadN X0.here hx rfl (hb hby d7_0) rfl rfl u) ?_
  obtain ⟨T1, X1, e1, st1⟩ := getF X0 hx hZ hown (host := "") (Or.inl (ow30 hw)) Via.refl e0 HT.2.2.1 (g := (mkF m 1 #[.val (.ref a)] [(.ref a)])) rfl rfl (hb hby d7_1)
  refine oT st1 ?_
  show oE _ _ _ _ (T1.setTop (mkF m 4 #[.val (.ref a)] [(.ref b)]))
  obtain ⟨cl2, Ar2, q2, S2, M2, -, -⟩ := id HT.2.2.2
  refine oT (fun _ u => X1.arraylength hx (by rw [e1]; exact Ar2.1) (State.isArrayOf_alike hZ.alike Ar2.2.1) (g := (mkF m 4 #[.val (.ref a)] [(.ref b)])) rfl rfl (hb hby d7_4) _ u) ?_
  rw [len_of S2 M2]
  show oE _ _ _ _ (T1.setTop (mkF m 5 #[.val (.ref a)] [(.int z)]))
  refine oT (fun _ u => XS.aloadN X1.here hx rfl (hb hby d7_5) rfl rfl u) ?_
  obtain ⟨cq3, kq3, q3a, q3b, q3c⟩ := isOf hZ e1 HT.1
  obtain ⟨_, _, ⟨T3, L3, k3, n3⟩, -, X3, ⟨Lc3, hQ3, l3, y3, z3⟩, st3⟩ := X1.virtualBack hx (y := oM17) (z := oM17) hown (mvT hZ (ow41 hw)) (mvT hZ (ow42 hw)) (notFace_of_selects (args := #[]) (mvT hZ (ow44 hw))) (mvT hZ (ow44 hw)) (mvT hZ (ow43 hw)) (by decide) (backOf (W := 1) (rmCo0 l Z a0 hw [] a cs_ rf_ h0 n0 O0 HS HT.2.1) hZ (ow45 hw) (ow9 hw) (by decide) (by decide)) q3a q3c (g := (mkF m 6 #[.val (.ref a)] [(.ref a), (.int z)])) rfl (by rw [hml]; rfl) (Steps.refl _) (argsL := []) (rest := [(.int z)]) (lenOf pd_14 rfl) rfl (by show 2 * 0 + _ ≤ _; exact Nat.le_of_eq rfl) (hb hby d7_6) (fun _ _ => ⟨rfl, e1, (own_le rfl), (own_le rfl)⟩)
  dsimp only [Pt.U, Pt.locs, Pt.cells, Pt.slots] at X3 l3 y3 z3 st3 hQ3
  subst y3 z3
  obtain ⟨rfl, N3q, E3⟩ := hQ3
  have N3 := own_fr l3 N0 N3q
  refine own_tr st3 ?_
  show oE _ _ _ _ (T3.setTop (mkF m 9 #[.val (.ref a)] [(.int 0), (.int z)]))
  refine oT (fun _ u => XS.ishr X3.here hx rfl (hb hby d7_9) rfl u) ?_
  show oE _ _ _ _ (T3.setTop (mkF m 10 #[.val (.ref a)] [(.int (z >>> ((0 : Int32) &&& 31)))]))
  refine own_leave X3 (v := some (.int (z >>> ((0 : Int32) &&& 31)))) (fun h => by rw [Bd.returns] at h; cases h) ?_ (by decide) (by decide) (fun fs hr => retOut X3 hx Bd.returns rfl (Or.inl ⟨rfl, Or.inl rfl, _, rfl⟩) (hb hby d7_10) hr)
  show Q_rmLen0 Z a cs_ rf_ b kd z vs h0 n0 _ T3.heap _
  rw [E3]
  exact ⟨rfl, N3, rfl⟩
theorem ef_rmLen1 (m : MethodId) (a : Addr) : entryFrame m #[(.ref a)] 1 = mkF m 0 #[.val (.ref a)] [] := by first | (simp [entryFrame, mkF, argsToLocals, Value.category]; done) | rfl | (rcases ref_cases hrf with rfl | ⟨q, rfl⟩ <;> rfl)
def Q_rmLen1 (Z : State) (a : Addr) (cs_ : Int32) (rf_ : Value) (b : Addr) (kd : ClassId) (z : Int32) (vs : List Value) (h0 : Heap) (n0 : Nat) (v : Option Value) (h : Heap) (L : List Loc) : Prop := v = some (.int (z >>> ((1 : Int32) &&& 31))) ∧ Fr n0 L ∧ h = h0
theorem rmLen1 (l : Launch) (Z : State) (a0 : Array Value) (hw : ∀ d ∈ tables_1, d.before a0 Z = true) (ws : List Jvm.Cond) (a : Addr) (cs_ : Int32) (rf_ : Value) (b : Addr) (kd : ClassId) (z : Int32) (vs : List Value) (h0 : Heap) (n0 : Nat) (O0 : Old Z n0 h0) (HS : own_HS Z cs_ rf_) (HT : Exa Z h0 a "java/lang/String" ∧ Fld Z h0 a "java/lang/String" "coder" "B" (.int (1 : Int32)) ∧ Fld Z h0 a "java/lang/String" "value" "[B" (.ref b) ∧ Arv Z h0 b kd .byte z vs (.int (0 : Int32))) :
    MetFree l oM24 (head1 (Jvm.Cond.code oM24 jdk_42_method_54_code 1 (some .int) :: ws) ({ frames := 1, cells := 0, slots := 0, locals := 14 } : Room)) (fun aq_ U => aq_ = #[(.ref a)] ∧ Z.Warmed39 U.vm ∧ U.heap = h0) (fun _ _ _ _ _ => True) (fun _ U o U' => ∃ v L, o = .returned v ∧ Q_rmLen1 Z a cs_ rf_ b kd z vs h0 n0 v U'.heap L ∧ FrameEnd U o U' L 0 0) := by
  refine MetFree.of_bodySF (plainFor_of_name pn_7) hisR ?_
  intro p e s m args below meth c s₁ Bd hml0 hP hK
  obtain ⟨rfl, hZ, hh⟩ := hP
  have hx := Bd.exec
  have hby := Bd.bytes
  have hml : c.maxLocals = 1 := hml0
  have hown : s.vm.findClass "java/lang/String" = some m.cls := findClass_of_methodNamed Bd.named
  have hnm := (name_of_methodNamed Bd.named Bd.method).1
  have X0 : Stand p l e ({ frames := 1, cells := 0, slots := 0, locals := 14 } : Room) s m #[(.ref a)] below meth c s₁ [] 0 0 := Stand.of_body Bd
  have e0 : s₁.heap = h0 := by rw [← hh, Bd.state]; rfl
  have N0 := Fr.nil n0
  show oE p.tables e below (own_P s (Q_rmLen1 Z a cs_ rf_ b kd z vs h0 n0) 0 0) _
  refine own_cast (ef_rmLen1 m a) ?_
  show oE _ _ _ _ (s₁.setTop (mkF m 0 #[.val (.ref a)] []))
  refine oT (fun _ u => XS.aloadN X0.here hx rfl (hb hby d7_0) rfl rfl u) ?_
  obtain ⟨T1, X1, e1, st1⟩ := getF X0 hx hZ hown (host := "") (Or.inl (ow30 hw)) Via.refl e0 HT.2.2.1 (g := (mkF m 1 #[.val (.ref a)] [(.ref a)])) rfl rfl (hb hby d7_1)
  refine oT st1 ?_
  show oE _ _ _ _ (T1.setTop (mkF m 4 #[.val (.ref a)] [(.ref b)]))
  obtain ⟨cl2, Ar2, q2, S2, M2, -, -⟩ := id HT.2.2.2
  refine oT (fun _ u => X1.arraylength hx (by rw [e1]; exact Ar2.1) (State.isArrayOf_alike hZ.alike Ar2.2.1) (g := (mkF m 4 #[.val (.ref a)] [(.ref b)])) rfl rfl (hb hby d7_4) _ u) ?_
  rw [len_of S2 M2]
  show oE _ _ _ _ (T1.setTop (mkF m 5 #[.val (.ref a)] [(.int z)]))
  refine oT (fun _ u => XS.aloadN X1.here hx rfl (hb hby d7_5) rfl rfl u) ?_
  obtain ⟨cq3, kq3, q3a, q3b, q3c⟩ := isOf hZ e1 HT.1
  obtain ⟨_, _, ⟨T3, L3, k3, n3⟩, -, X3, ⟨Lc3, hQ3, l3, y3, z3⟩, st3⟩ := X1.virtualBack hx (y := oM17) (z := oM17) hown (mvT hZ (ow41 hw)) (mvT hZ (ow42 hw)) (notFace_of_selects (args := #[]) (mvT hZ (ow44 hw))) (mvT hZ (ow44 hw)) (mvT hZ (ow43 hw)) (by decide) (backOf (W := 1) (rmCo1 l Z a0 hw [] a cs_ rf_ h0 n0 O0 HS HT.2.1) hZ (ow45 hw) (ow9 hw) (by decide) (by decide)) q3a q3c (g := (mkF m 6 #[.val (.ref a)] [(.ref a), (.int z)])) rfl (by rw [hml]; rfl) (Steps.refl _) (argsL := []) (rest := [(.int z)]) (lenOf pd_14 rfl) rfl (by show 2 * 0 + _ ≤ _; exact Nat.le_of_eq rfl) (hb hby d7_6) (fun _ _ => ⟨rfl, e1, (own_le rfl), (own_le rfl)⟩)
  dsimp only [Pt.U, Pt.locs, Pt.cells, Pt.slots] at X3 l3 y3 z3 st3 hQ3
  subst y3 z3
  obtain ⟨rfl, N3q, E3⟩ := hQ3
  have N3 := own_fr l3 N0 N3q
  refine own_tr st3 ?_
  show oE _ _ _ _ (T3.setTop (mkF m 9 #[.val (.ref a)] [(.int 1), (.int z)]))
  refine oT (fun _ u => XS.ishr X3.here hx rfl (hb hby d7_9) rfl u) ?_
  show oE _ _ _ _ (T3.setTop (mkF m 10 #[.val (.ref a)] [(.int (z >>> ((1 : Int32) &&& 31)))]))
  refine own_leave X3 (v := some (.int (z >>> ((1 : Int32) &&& 31)))) (fun h => by rw [Bd.returns] at h; cases h) ?_ (by decide) (by decide) (fun fs hr => retOut X3 hx Bd.returns rfl (Or.inl ⟨rfl, Or.inl rfl, _, rfl⟩) (hb hby d7_10) hr)
  show Q_rmLen1 Z a cs_ rf_ b kd z vs h0 n0 _ T3.heap _
  rw [E3]
  exact ⟨rfl, N3, rfl⟩
theorem d6_0 : decode prog_16_method_16_code 0 = .ok (.iconst 0, 1) := by decide +kernel
theorem d6_1 : decode prog_16_method_16_code 1 = .ok (.istore_n 1, 1) := by decide +kernel
theorem d6_2 : decode prog_16_method_16_code 2 = .ok (.iload_n 1, 1) := by decide +kernel
theorem d6_3 : decode prog_16_method_16_code 3 = .ok (.aload_n 0, 1) := by decide +kernel
theorem d6_4 : decode prog_16_method_16_code 4 = .ok (.invokevirtual 471, 3) := by decide +kernel
theorem d6_7 : decode prog_16_method_16_code 7 = .ok (.if_icmp .ge 30, 3) := by decide +kernel
theorem d6_37 : decode prog_16_method_16_code 37 = .ok (.iconst 1, 1) := by decide +kernel
theorem d6_38 : decode prog_16_method_16_code 38 = .ok (.ireturn, 1) := by decide +kernel
theorem pn_6 : plainName "com/example/quittance/quittance/apply/CashApplication" = true := by first | (simp [plainName, overriddenIn]; done) | decide +kernel
theorem pd_15 : parseMethodDescriptor "()I" = some ⟨[], some .int⟩ := by decide +kernel
theorem ef_rmFDL0 (m : MethodId) (a : Addr) : entryFrame m #[(.ref a)] 3 = mkF m 0 #[.val (.ref a), .unset, .unset] [] := by first | (simp [entryFrame, mkF, argsToLocals, Value.category]; done) | rfl | (rcases ref_cases hrf with rfl | ⟨q, rfl⟩ <;> rfl)
def Q_rmFDL0 (Z : State) (a : Addr) (cs_ : Int32) (rf_ : Value) (b : Addr) (kb : ClassId)  (h0 : Heap) (n0 : Nat) (v : Option Value) (h : Heap) (L : List Loc) : Prop := v = some (.int (own_all0 )) ∧ Fr n0 L ∧ h = h0
theorem rmFDL0 (l : Launch) (Z : State) (a0 : Array Value) (hw : ∀ d ∈ tables_1, d.before a0 Z = true) (ws : List Jvm.Cond) (a : Addr) (cs_ : Int32) (rf_ : Value) (b : Addr) (kb : ClassId)  (h0 : Heap) (n0 : Nat) (O0 : Old Z n0 h0) (HS : own_HS Z cs_ rf_) (HT : own_TL0 Z h0 a b kb ) :
    MetFree l oM25 (head1 (Jvm.Cond.code oM25 prog_16_method_16_code 3 (some .boolean) :: ws) ({ frames := 5, cells := 0, slots := 0, locals := 84 } : Room)) (fun aq_ U => aq_ = #[(.ref a)] ∧ Z.Warmed39 U.vm ∧ U.heap = h0) (fun _ _ _ _ _ => True) (fun _ U o U' => ∃ v L, o = .returned v ∧ Q_rmFDL0 Z a cs_ rf_ b kb h0 n0 v U'.heap L ∧ FrameEnd U o U' L 0 0) := by
  refine MetFree.of_bodySF (plainFor_of_name pn_6) hisR ?_
  intro p e s m args below meth c s₁ Bd hml0 hP hK
  obtain ⟨rfl, hZ, hh⟩ := hP
  have hx := Bd.exec
  have hby := Bd.bytes
  have hml : c.maxLocals = 3 := hml0
  have hown : s.vm.findClass "com/example/quittance/quittance/apply/CashApplication" = some m.cls := findClass_of_methodNamed Bd.named
  have hnm := (name_of_methodNamed Bd.named Bd.method).1
  have X0 : Stand p l e ({ frames := 5, cells := 0, slots := 0, locals := 84 } : Room) s m #[(.ref a)] below meth c s₁ [] 0 0 := Stand.of_body Bd
  have e0 : s₁.heap = h0 := by rw [← hh, Bd.state]; rfl
  have N0 := Fr.nil n0
  show oE p.tables e below (own_P s (Q_rmFDL0 Z a cs_ rf_ b kb h0 n0) 0 0) _
  refine own_cast (ef_rmFDL0 m a) ?_
  show oE _ _ _ _ (s₁.setTop (mkF m 0 #[.val (.ref a), .unset, .unset] []))
  refine oT (fun _ u => XS.iconst X0.here hx rfl (hb hby d6_0) u) ?_
  refine oT (fun _ u => XS.istoreN X0.here hx rfl (hb hby d6_1) rfl (l' := #[.val (.ref a), .val (.int (0 : Int32)), .unset]) rfl u) ?_
  refine oT (fun _ u => XS.iloadN X0.here hx rfl (hb hby d6_2) rfl u) ?_
  refine oT (fun _ u => XS.aloadN X0.here hx rfl (hb hby d6_3) rfl rfl u) ?_
  obtain ⟨cq1, kq1, q1a, q1b, q1c⟩ := isOf hZ e0 HT.1
  obtain ⟨_, _, ⟨T1, L1, k1, n1⟩, -, X1, ⟨Lc1, hQ1, l1, y1, z1⟩, st1⟩ := X0.virtualBack hx (y := oM24) (z := oM24) hown (mvT hZ (ow36 hw)) (mvT hZ (ow37 hw)) (notFace_of_selects (args := #[]) (mvT hZ (ow39 hw))) (mvT hZ (ow39 hw)) (mvT hZ (ow38 hw)) (by decide) (backOf (W := 1) (rmLen0 l Z a0 hw [] a cs_ rf_ b kb (0 : Int32) [] h0 n0 O0 HS ⟨HT.1, HT.2.1, HT.2.2.1, HT.2.2.2⟩) hZ (ow40 hw) (ow9 hw) (by decide) (by decide)) q1a q1c (g := (mkF m 4 #[.val (.ref a), .val (.int 0), .unset] [(.ref a), (.int 0)])) rfl (by rw [hml]; rfl) (Steps.refl _) (argsL := []) (rest := [(.int (0 : Int32))]) (lenOf pd_15 rfl) rfl (by show 2 * 0 + _ ≤ _; exact Nat.le_of_eq rfl) (hb hby d6_4) (fun _ _ => ⟨rfl, e0, (own_le rfl), (own_le rfl)⟩)
  dsimp only [Pt.U, Pt.locs, Pt.cells, Pt.slots] at X1 l1 y1 z1 st1 hQ1
  subst y1 z1
  obtain ⟨hv1, N1q, E1⟩ := hQ1
  rw [show ((0 : Int32) >>> ((0 : Int32) &&& 31)) = (0 : Int32) from by decide] at hv1
  subst hv1
  have N1 := own_fr l1 N0 N1q
  refine own_tr st1 ?_
  show oE _ _ _ _ (T1.setTop (mkF m 7 #[.val (.ref a), .val (.int 0), .unset] [(.int 0), (.int 0)]))
  refine oT (fun _ u => XS.icmpYes X1.here hx rfl (pc0 := 7) (pc' := 37) rfl (hb hby d6_7) rfl (flt (by decide)).2.1 (by decide) (by decide) u) ?_
  show oE _ _ _ _ (T1.setTop (mkF m 37 #[.val (.ref a), .val (.int 0), .unset] []))
  refine oT (fun _ u => XS.iconst X1.here hx rfl (hb hby d6_37) u) ?_
  refine own_leave X1 (v := some (.int (1 : Int32))) (fun h => by rw [Bd.returns] at h; cases h) ?_ (by decide) (by decide) (fun fs hr => retN X1 hx (t := .boolean) Bd.returns (by simp) (hb hby d6_38) hr)
  show Q_rmFDL0 Z a cs_ rf_ b kb h0 n0 _ T1.heap _
  rw [E1]
  exact ⟨by simp [own_all0], N1, rfl⟩
theorem d6_10 : decode prog_16_method_16_code 10 = .ok (.aload_n 0, 1) := by decide +kernel
theorem d6_11 : decode prog_16_method_16_code 11 = .ok (.iload_n 1, 1) := by decide +kernel
theorem d6_12 : decode prog_16_method_16_code 12 = .ok (.invokevirtual 474, 3) := by decide +kernel
theorem d6_15 : decode prog_16_method_16_code 15 = .ok (.istore_n 2, 1) := by decide +kernel
theorem d6_16 : decode prog_16_method_16_code 16 = .ok (.iload_n 2, 1) := by decide +kernel
theorem d6_17 : decode prog_16_method_16_code 17 = .ok (.bipush 59, 2) := by decide +kernel
theorem d6_19 : decode prog_16_method_16_code 19 = .ok (.if_icmp .eq 10, 3) := by decide +kernel
theorem d6_22 : decode prog_16_method_16_code 22 = .ok (.iload_n 2, 1) := by decide +kernel
theorem d6_23 : decode prog_16_method_16_code 23 = .ok (.invokestatic 478, 3) := by decide +kernel
theorem d6_26 : decode prog_16_method_16_code 26 = .ok (.ifCond .eq 5, 3) := by decide +kernel
theorem d6_29 : decode prog_16_method_16_code 29 = .ok (.iconst 0, 1) := by decide +kernel
theorem d6_30 : decode prog_16_method_16_code 30 = .ok (.ireturn, 1) := by decide +kernel
theorem d6_31 : decode prog_16_method_16_code 31 = .ok (.iinc 1 1, 3) := by decide +kernel
theorem d6_34 : decode prog_16_method_16_code 34 = .ok (.goto (-32), 3) := by decide +kernel
theorem pd_16 : parseMethodDescriptor "(I)C" = some ⟨[.int], some .char⟩ := by decide +kernel
theorem pd_17 : parseMethodDescriptor "(C)Z" = some ⟨[.char], some .boolean⟩ := by decide +kernel
theorem ef_rmFDL1 (m : MethodId) (a : Addr) : entryFrame m #[(.ref a)] 3 = mkF m 0 #[.val (.ref a), .unset, .unset] [] := by first | (simp [entryFrame, mkF, argsToLocals, Value.category]; done) | rfl | (rcases ref_cases hrf with rfl | ⟨q, rfl⟩ <;> rfl)
def Q_rmFDL1 (Z : State) (a : Addr) (cs_ : Int32) (rf_ : Value) (b : Addr) (kb : ClassId) (ce0 : Int32) (h0 : Heap) (n0 : Nat) (v : Option Value) (h : Heap) (L : List Loc) : Prop := v = some (.int (own_all1 ce0)) ∧ Fr n0 L ∧ h = h0
theorem rmFDL1 (l : Launch) (Z : State) (a0 : Array Value) (hw : ∀ d ∈ tables_1, d.before a0 Z = true) (ws : List Jvm.Cond) (a : Addr) (cs_ : Int32) (rf_ : Value) (b : Addr) (kb : ClassId) (ce0 : Int32) (h0 : Heap) (n0 : Nat) (O0 : Old Z n0 h0) (HS : own_HS Z cs_ rf_) (HT : own_TL1 Z h0 a b kb ce0) (HE0 : own_Ch ce0) :
    MetFree l oM25 (head1 (Jvm.Cond.code oM25 prog_16_method_16_code 3 (some .boolean) :: ws) ({ frames := 5, cells := 0, slots := 0, locals := 84 } : Room)) (fun aq_ U => aq_ = #[(.ref a)] ∧ Z.Warmed39 U.vm ∧ U.heap = h0) (fun _ _ _ _ _ => True) (fun _ U o U' => ∃ v L, o = .returned v ∧ Q_rmFDL1 Z a cs_ rf_ b kb ce0 h0 n0 v U'.heap L ∧ FrameEnd U o U' L 0 0) := by
  refine MetFree.of_bodySF (plainFor_of_name pn_6) hisR ?_
  intro p e s m args below meth c s₁ Bd hml0 hP hK
  obtain ⟨rfl, hZ, hh⟩ := hP
  have hx := Bd.exec
  have hby := Bd.bytes
  have hml : c.maxLocals = 3 := hml0
  have hown : s.vm.findClass "com/example/quittance/quittance/apply/CashApplication" = some m.cls := findClass_of_methodNamed Bd.named
  have hnm := (name_of_methodNamed Bd.named Bd.method).1
  have X0 : Stand p l e ({ frames := 5, cells := 0, slots := 0, locals := 84 } : Room) s m #[(.ref a)] below meth c s₁ [] 0 0 := Stand.of_body Bd
  have e0 : s₁.heap = h0 := by rw [← hh, Bd.state]; rfl
  have N0 := Fr.nil n0
  show oE p.tables e below (own_P s (Q_rmFDL1 Z a cs_ rf_ b kb ce0 h0 n0) 0 0) _
  refine own_cast (ef_rmFDL1 m a) ?_
  show oE _ _ _ _ (s₁.setTop (mkF m 0 #[.val (.ref a), .unset, .unset] []))
  refine oT (fun _ u => XS.iconst X0.here hx rfl (hb hby d6_0) u) ?_
  refine oT (fun _ u => XS.istoreN X0.here hx rfl (hb hby d6_1) rfl (l' := #[.val (.ref a), .val (.int (0 : Int32)), .unset]) rfl u) ?_
  refine oT (fun _ u => XS.iloadN X0.here hx rfl (hb hby d6_2) rfl u) ?_
  refine oT (fun _ u => XS.aloadN X0.here hx rfl (hb hby d6_3) rfl rfl u) ?_
  obtain ⟨cq1, kq1, q1a, q1b, q1c⟩ := isOf hZ e0 HT.1
  obtain ⟨_, _, ⟨T1, L1, k1, n1⟩, -, X1, ⟨Lc1, hQ1, l1, y1, z1⟩, st1⟩ := X0.virtualBack hx (y := oM24) (z := oM24) hown (mvT hZ (ow36 hw)) (mvT hZ (ow37 hw)) (notFace_of_selects (args := #[]) (mvT hZ (ow39 hw))) (mvT hZ (ow39 hw)) (mvT hZ (ow38 hw)) (by decide) (backOf (W := 1) (rmLen0 l Z a0 hw [] a cs_ rf_ b kb (1 : Int32) [(.int (ce0.toInt8.toInt32))] h0 n0 O0 HS ⟨HT.1, HT.2.1, HT.2.2.1, HT.2.2.2.1⟩) hZ (ow40 hw) (ow9 hw) (by decide) (by decide)) q1a q1c (g := (mkF m 4 #[.val (.ref a), .val (.int 0), .unset] [(.ref a), (.int 0)])) rfl (by rw [hml]; rfl) (Steps.refl _) (argsL := []) (rest := [(.int (0 : Int32))]) (lenOf pd_15 rfl) rfl (by show 2 * 0 + _ ≤ _; exact Nat.le_of_eq rfl) (hb hby d6_4) (fun _ _ => ⟨rfl, e0, (own_le rfl), (own_le rfl)⟩)
  dsimp only [Pt.U, Pt.locs, Pt.cells, Pt.slots] at X1 l1 y1 z1 st1 hQ1
  subst y1 z1
  obtain ⟨hv1, N1q, E1⟩ := hQ1
  rw [show ((1 : Int32) >>> ((0 : Int32) &&& 31)) = (1 : Int32) from by decide] at hv1
  subst hv1
  have N1 := own_fr l1 N0 N1q
  refine own_tr st1 ?_
  show oE _ _ _ _ (T1.setTop (mkF m 7 #[.val (.ref a), .val (.int 0), .unset] [(.int 1), (.int 0)]))
  refine oT (fun _ u => XS.icmpNo X1.here hx rfl (hb hby d6_7) rfl (tlt (by decide)).2.1 u) ?_
  show oE _ _ _ _ (T1.setTop (mkF m 10 #[.val (.ref a), .val (.int 0), .unset] []))
  refine oT (fun _ u => XS.aloadN X1.here hx rfl (hb hby d6_10) rfl rfl u) ?_
  refine oT (fun _ u => XS.iloadN X1.here hx rfl (hb hby d6_11) rfl u) ?_
  obtain ⟨cq2, kq2, q2a, q2b, q2c⟩ := isOf hZ E1 HT.1
  obtain ⟨_, _, ⟨T2, L2, k2, n2⟩, -, X2, ⟨Lc2, hQ2, l2, y2, z2⟩, st2⟩ := X1.virtualBack hx (y := oM23) (z := oM23) hown (mvT hZ (ow60 hw)) (mvT hZ (ow61 hw)) (notFace_of_selects (args := #[]) (mvT hZ (ow63 hw))) (mvT hZ (ow63 hw)) (mvT hZ (ow62 hw)) (by decide) (backOf (W := 0) (rmAL l Z a0 hw [] a (0 : Int32) cs_ rf_ b kb (1 : Int32) [(.int (ce0.toInt8.toInt32))] (ce0.toInt8.toInt32) h0 n0 O0 HS ⟨HT.1, HT.2.1, HT.2.2.1, HT.2.2.2.1⟩ ⟨by decide, by decide⟩ rfl) hZ (ow64 hw) (ow9 hw) (by decide) (by decide)) q2a q2c (g := (mkF m 12 #[.val (.ref a), .val (.int 0), .unset] [(.int 0), (.ref a)])) rfl (by rw [hml]; rfl) (Steps.refl _) (argsL := [(.int (0 : Int32))]) (rest := []) (lenOf pd_16 rfl) rfl (by show 2 * 0 + _ ≤ _; exact Nat.le_of_eq rfl) (hb hby d6_12) (fun _ _ => ⟨rfl, E1, (own_le rfl), (own_le rfl)⟩)
  dsimp only [Pt.U, Pt.locs, Pt.cells, Pt.slots] at X2 l2 y2 z2 st2 hQ2
  subst y2 z2
  obtain ⟨hv2, N2q, E2⟩ := hQ2
  rw [own_lat HE0 HT.2.2.2.2] at hv2
  subst hv2
  have N2 := own_fr l2 N1 N2q
  refine own_tr st2 ?_
  show oE _ _ _ _ (T2.setTop (mkF m 15 #[.val (.ref a), .val (.int 0), .unset] [(.int ce0)]))
  refine oT (fun _ u => XS.istoreN X2.here hx rfl (hb hby d6_15) rfl (l' := #[.val (.ref a), .val (.int (0 : Int32)), .val (.int ce0)]) rfl u) ?_
  refine oT (fun _ u => XS.iloadN X2.here hx rfl (hb hby d6_16) rfl u) ?_
  refine oT (fun _ u => XS.bipush X2.here hx rfl (hb hby d6_17) u) ?_
  by_cases hc19_3 : ce0 = (59 : Int32)
  · -- pc 19: ce0 = (59 : Int32)
    refine oT (fun _ u => XS.icmpYes X2.here hx rfl (pc0 := 19) (pc' := 29) rfl (hb hby d6_19) rfl (teq hc19_3).1 (by decide) (by decide) u) ?_
    show oE _ _ _ _ (T2.setTop (mkF m 29 #[.val (.ref a), .val (.int 0), .val (.int ce0)] []))
    have zf0 : own_f ce0 = 0 := own_f0 hc19_3
    refine oT (fun _ u => XS.iconst X2.here hx rfl (hb hby d6_29) u) ?_
    refine own_leave X2 (v := some (.int (0 : Int32))) (fun h => by rw [Bd.returns] at h; cases h) ?_ (by decide) (by decide) (fun fs hr => retN X2 hx (t := .boolean) Bd.returns (by simp) (hb hby d6_30) hr)
    show Q_rmFDL1 Z a cs_ rf_ b kb ce0 h0 n0 _ T2.heap _
    rw [E2]
    exact ⟨by simp [own_all1, zf0], N2, rfl⟩
  · -- pc 19: not ce0 = (59 : Int32)
    refine oT (fun _ u => XS.icmpNo X2.here hx rfl (hb hby d6_19) rfl (feq hc19_3).1 u) ?_
    show oE _ _ _ _ (T2.setTop (mkF m 22 #[.val (.ref a), .val (.int 0), .val (.int ce0)] []))
    refine oT (fun _ u => XS.iloadN X2.here hx rfl (hb hby d6_22) rfl u) ?_
    obtain ⟨_, _, ⟨T4, L4, k4, n4⟩, -, X4, ⟨Lc4, hQ4, l4, y4, z4⟩, st4⟩ := Jvm.LawKit.callS X2 hx (y := oM5) hown (mvT hZ (ow82 hw)) (mvT hZ (ow83 hw)) (mvT hZ (ow84 hw)) (mvT hZ (ow85 hw)) (by decide) (backOf (W := 0) (rmI1 l Z a0 hw [] ce0  h0 n0 O0 ) hZ (ow85 hw) (ow84 hw) (by decide) (by decide)) (g := (mkF m 23 #[.val (.ref a), .val (.int 0), .val (.int ce0)] [(.int ce0)])) rfl (by rw [hml]; rfl) (argsL := [(.int ce0)]) (rest := []) (lenOf pd_17 rfl) rfl (by show 2 * 0 + _ ≤ _; exact Nat.le_of_eq rfl) (hb hby d6_23) (fun _ _ => ⟨rfl, E2, (own_le rfl), (own_le rfl)⟩)
    dsimp only [Pt.U, Pt.locs, Pt.cells, Pt.slots] at X4 l4 y4 z4 st4 hQ4
    subst y4 z4
    obtain ⟨rfl, N4q, E4⟩ := hQ4
    have N4 := own_fr l4 N2 N4q
    refine oT st4 ?_
    show oE _ _ _ _ (T4.setTop (mkF m 26 #[.val (.ref a), .val (.int 0), .val (.int ce0)] [(.int (own_iso ce0))]))
    by_cases hc26_5 : (own_iso ce0) = (0 : Int32)
    · -- pc 26: (own_iso ce0) = (0 : Int32)
      refine oT (fun _ u => XS.ifYes X4.here hx rfl (pc0 := 26) (pc' := 31) rfl (hb hby d6_26) rfl ((if0 _ _).trans (teq hc26_5).1) (by decide) (by decide) u) ?_
      show oE _ _ _ _ (T4.setTop (mkF m 31 #[.val (.ref a), .val (.int 0), .val (.int ce0)] []))
      have nf0 := own_f2 HE0 hc19_3 hc26_5
      refine oT (fun _ u => XS.iinc X4.here hx rfl (hb hby d6_31) rfl (l' := #[.val (.ref a), .val (.int (1 : Int32)), .val (.int ce0)]) rfl u) ?_
      show oE _ _ _ _ (T4.setTop (mkF m 34 #[.val (.ref a), .val (.int 1), .val (.int ce0)] []))
      refine oT (fun _ u => XS.goto X4.here hx rfl (pc0 := 34) (pc' := 2) rfl (hb hby d6_34) (by decide) (by decide) u) ?_
      refine oT (fun _ u => XS.iloadN X4.here hx rfl (hb hby d6_2) rfl u) ?_
      refine oT (fun _ u => XS.aloadN X4.here hx rfl (hb hby d6_3) rfl rfl u) ?_
      obtain ⟨cq6, kq6, q6a, q6b, q6c⟩ := isOf hZ E4 HT.1
      obtain ⟨_, _, ⟨T6, L6, k6, n6⟩, -, X6, ⟨Lc6, hQ6, l6, y6, z6⟩, st6⟩ := X4.virtualBack hx (y := oM24) (z := oM24) hown (mvT hZ (ow36 hw)) (mvT hZ (ow37 hw)) (notFace_of_selects (args := #[]) (mvT hZ (ow39 hw))) (mvT hZ (ow39 hw)) (mvT hZ (ow38 hw)) (by decide) (backOf (W := 1) (rmLen0 l Z a0 hw [] a cs_ rf_ b kb (1 : Int32) [(.int (ce0.toInt8.toInt32))] h0 n0 O0 HS ⟨HT.1, HT.2.1, HT.2.2.1, HT.2.2.2.1⟩) hZ (ow40 hw) (ow9 hw) (by decide) (by decide)) q6a q6c (g := (mkF m 4 #[.val (.ref a), .val (.int 1), .val (.int ce0)] [(.ref a), (.int 1)])) rfl (by rw [hml]; rfl) (Steps.refl _) (argsL := []) (rest := [(.int (1 : Int32))]) (lenOf pd_15 rfl) rfl (by show 2 * 0 + _ ≤ _; exact Nat.le_of_eq rfl) (hb hby d6_4) (fun _ _ => ⟨rfl, E4, (own_le rfl), (own_le rfl)⟩)
      dsimp only [Pt.U, Pt.locs, Pt.cells, Pt.slots] at X6 l6 y6 z6 st6 hQ6
      subst y6 z6
      obtain ⟨hv6, N6q, E6⟩ := hQ6
      rw [show ((1 : Int32) >>> ((0 : Int32) &&& 31)) = (1 : Int32) from by decide] at hv6
      subst hv6
      have N6 := own_fr l6 N4 N6q
      refine own_tr st6 ?_
      show oE _ _ _ _ (T6.setTop (mkF m 7 #[.val (.ref a), .val (.int 1), .val (.int ce0)] [(.int 1), (.int 1)]))
      refine oT (fun _ u => XS.icmpYes X6.here hx rfl (pc0 := 7) (pc' := 37) rfl (hb hby d6_7) rfl (flt (by decide)).2.1 (by decide) (by decide) u) ?_
      show oE _ _ _ _ (T6.setTop (mkF m 37 #[.val (.ref a), .val (.int 1), .val (.int ce0)] []))
      refine oT (fun _ u => XS.iconst X6.here hx rfl (hb hby d6_37) u) ?_
      refine own_leave X6 (v := some (.int (1 : Int32))) (fun h => by rw [Bd.returns] at h; cases h) ?_ (by decide) (by decide) (fun fs hr => retN X6 hx (t := .boolean) Bd.returns (by simp) (hb hby d6_38) hr)
      show Q_rmFDL1 Z a cs_ rf_ b kb ce0 h0 n0 _ T6.heap _
      rw [E6]
      exact ⟨by simp [own_all1, nf0], N6, rfl⟩
    · -- pc 26: not (own_iso ce0) = (0 : Int32)
      refine oT (fun _ u => XS.ifNo X4.here hx rfl (hb hby d6_26) rfl ((if0 _ _).trans (feq hc26_5).1) u) ?_
      show oE _ _ _ _ (T4.setTop (mkF m 29 #[.val (.ref a), .val (.int 0), .val (.int ce0)] []))
      have zf0 : own_f ce0 = 0 := own_f1 HE0 hc26_5
      refine oT (fun _ u => XS.iconst X4.here hx rfl (hb hby d6_29) u) ?_
      refine own_leave X4 (v := some (.int (0 : Int32))) (fun h => by rw [Bd.returns] at h; cases h) ?_ (by decide) (by decide) (fun fs hr => retN X4 hx (t := .boolean) Bd.returns (by simp) (hb hby d6_30) hr)
      show Q_rmFDL1 Z a cs_ rf_ b kb ce0 h0 n0 _ T4.heap _
      rw [E4]
      exact ⟨by simp [own_all1, zf0], N4, rfl⟩
theorem ef_rmFDL2 (m : MethodId) (a : Addr) : entryFrame m #[(.ref a)] 3 = mkF m 0 #[.val (.ref a), .unset, .unset] [] := by first | (simp [entryFrame, mkF, argsToLocals, Value.category]; done) | rfl | (rcases ref_cases hrf with rfl | ⟨q, rfl⟩ <;> rfl)
def Q_rmFDL2 (Z : State) (a : Addr) (cs_ : Int32) (rf_ : Value) (b : Addr) (kb : ClassId) (ce0 : Int32) (ce1 : Int32) (h0 : Heap) (n0 : Nat) (v : Option Value) (h : Heap) (L : List Loc) : Prop := v = some (.int (own_all2 ce0 ce1)) ∧ Fr n0 L ∧ h = h0
theorem rmFDL2 (l : Launch) (Z : State) (a0 : Array Value) (hw : ∀ d ∈ tables_1, d.before a0 Z = true) (ws : List Jvm.Cond) (a : Addr) (cs_ : Int32) (rf_ : Value) (b : Addr) (kb : ClassId) (ce0 : Int32) (ce1 : Int32) (h0 : Heap) (n0 : Nat) (O0 : Old Z n0 h0) (HS : own_HS Z cs_ rf_) (HT : own_TL2 Z h0 a b kb ce0 ce1) (HE0 : own_Ch ce0) (HE1 : own_Ch ce1) :
    MetFree l oM25 (head1 (Jvm.Cond.code oM25 prog_16_method_16_code 3 (some .boolean) :: ws) ({ frames := 5, cells := 0, slots := 0, locals := 84 } : Room)) (fun aq_ U => aq_ = #[(.ref a)] ∧ Z.Warmed39 U.vm ∧ U.heap = h0) (fun _ _ _ _ _ => True) (fun _ U o U' => ∃ v L, o = .returned v ∧ Q_rmFDL2 Z a cs_ rf_ b kb ce0 ce1 h0 n0 v U'.heap L ∧ FrameEnd U o U' L 0 0) := by
  refine MetFree.of_bodySF (plainFor_of_name pn_6) hisR ?_
  intro p e s m args below meth c s₁ Bd hml0 hP hK
  obtain ⟨rfl, hZ, hh⟩ := hP
  have hx := Bd.exec
  have hby := Bd.bytes
  have hml : c.maxLocals = 3 := hml0
  have hown : s.vm.findClass "com/example/quittance/quittance/apply/CashApplication" = some m.cls := findClass_of_methodNamed Bd.named
  have hnm := (name_of_methodNamed Bd.named Bd.method).1
  have X0 : Stand p l e ({ frames := 5, cells := 0, slots := 0, locals := 84 } : Room) s m #[(.ref a)] below meth c s₁ [] 0 0 := Stand.of_body Bd
  have e0 : s₁.heap = h0 := by rw [← hh, Bd.state]; rfl
  have N0 := Fr.nil n0
  show oE p.tables e below (own_P s (Q_rmFDL2 Z a cs_ rf_ b kb ce0 ce1 h0 n0) 0 0) _
  refine own_cast (ef_rmFDL2 m a) ?_
  show oE _ _ _ _ (s₁.setTop (mkF m 0 #[.val (.ref a), .unset, .unset] []))
  refine oT (fun _ u => XS.iconst X0.here hx rfl (hb hby d6_0) u) ?_
  refine oT (fun _ u => XS.istoreN X0.here hx rfl (hb hby d6_1) rfl (l' := #[.val (.ref a), .val (.int (0 : Int32)), .unset]) rfl u) ?_
  refine oT (fun _ u => XS.iloadN X0.here hx rfl (hb hby d6_2) rfl u) ?_
  refine oT (fun _ u => XS.aloadN X0.here hx rfl (hb hby d6_3) rfl rfl u) ?_
  obtain ⟨cq1, kq1, q1a, q1b, q1c⟩ := isOf hZ e0 HT.1
  obtain ⟨_, _, ⟨T1, L1, k1, n1⟩, -, X1, ⟨Lc1, hQ1, l1, y1, z1⟩, st1⟩ := X0.virtualBack hx (y := oM24) (z := oM24) hown (mvT hZ (ow36 hw)) (mvT hZ (ow37 hw)) (notFace_of_selects (args := #[]) (mvT hZ (ow39 hw))) (mvT hZ (ow39 hw)) (mvT hZ (ow38 hw)) (by decide) (backOf (W := 1) (rmLen0 l Z a0 hw [] a cs_ rf_ b kb (2 : Int32) [(.int (ce0.toInt8.toInt32)), (.int (ce1.toInt8.toInt32))] h0 n0 O0 HS ⟨HT.1, HT.2.1, HT.2.2.1, HT.2.2.2.1⟩) hZ (ow40 hw) (ow9 hw) (by decide) (by decide)) q1a q1c (g := (mkF m 4 #[.val (.ref a), .val (.int 0), .unset] [(.ref a), (.int 0)])) rfl (by rw [hml]; rfl) (Steps.refl _) (argsL := []) (rest := [(.int (0 : Int32))]) (lenOf pd_15 rfl) rfl (by show 2 * 0 + _ ≤ _; exact Nat.le_of_eq rfl) (hb hby d6_4) (fun _ _ => ⟨rfl, e0, (own_le rfl), (own_le rfl)⟩)
  dsimp only [Pt.U, Pt.locs, Pt.cells, Pt.slots] at X1 l1 y1 z1 st1 hQ1
  subst y1 z1
  obtain ⟨hv1, N1q, E1⟩ := hQ1
  rw [show ((2 : Int32) >>> ((0 : Int32) &&& 31)) = (2 : Int32) from by decide] at hv1
  subst hv1
  have N1 := own_fr l1 N0 N1q
  refine own_tr st1 ?_
  show oE _ _ _ _ (T1.setTop (mkF m 7 #[.val (.ref a), .val (.int 0), .unset] [(.int 2), (.int 0)]))
  refine oT (fun _ u => XS.icmpNo X1.here hx rfl (hb hby d6_7) rfl (tlt (by decide)).2.1 u) ?_
  show oE _ _ _ _ (T1.setTop (mkF m 10 #[.val (.ref a), .val (.int 0), .unset] []))
  refine oT (fun _ u => XS.aloadN X1.here hx rfl (hb hby d6_10) rfl rfl u) ?_
  refine oT (fun _ u => XS.iloadN X1.here hx rfl (hb hby d6_11) rfl u) ?_
  obtain ⟨cq2, kq2, q2a, q2b, q2c⟩ := isOf hZ E1 HT.1
  obtain ⟨_, _, ⟨T2, L2, k2, n2⟩, -, X2, ⟨Lc2, hQ2, l2, y2, z2⟩, st2⟩ := X1.virtualBack hx (y := oM23) (z := oM23) hown (mvT hZ (ow60 hw)) (mvT hZ (ow61 hw)) (notFace_of_selects (args := #[]) (mvT hZ (ow63 hw))) (mvT hZ (ow63 hw)) (mvT hZ (ow62 hw)) (by decide) (backOf (W := 0) (rmAL l Z a0 hw [] a (0 : Int32) cs_ rf_ b kb (2 : Int32) [(.int (ce0.toInt8.toInt32)), (.int (ce1.toInt8.toInt32))] (ce0.toInt8.toInt32) h0 n0 O0 HS ⟨HT.1, HT.2.1, HT.2.2.1, HT.2.2.2.1⟩ ⟨by decide, by decide⟩ rfl) hZ (ow64 hw) (ow9 hw) (by decide) (by decide)) q2a q2c (g := (mkF m 12 #[.val (.ref a), .val (.int 0), .unset] [(.int 0), (.ref a)])) rfl (by rw [hml]; rfl) (Steps.refl _) (argsL := [(.int (0 : Int32))]) (rest := []) (lenOf pd_16 rfl) rfl (by show 2 * 0 + _ ≤ _; exact Nat.le_of_eq rfl) (hb hby d6_12) (fun _ _ => ⟨rfl, E1, (own_le rfl), (own_le rfl)⟩)
  dsimp only [Pt.U, Pt.locs, Pt.cells, Pt.slots] at X2 l2 y2 z2 st2 hQ2
  subst y2 z2
  obtain ⟨hv2, N2q, E2⟩ := hQ2
  rw [own_lat HE0 HT.2.2.2.2.1] at hv2
  subst hv2
  have N2 := own_fr l2 N1 N2q
  refine own_tr st2 ?_
  show oE _ _ _ _ (T2.setTop (mkF m 15 #[.val (.ref a), .val (.int 0), .unset] [(.int ce0)]))
  refine oT (fun _ u => XS.istoreN X2.here hx rfl (hb hby d6_15) rfl (l' := #[.val (.ref a), .val (.int (0 : Int32)), .val (.int ce0)]) rfl u) ?_
  refine oT (fun _ u => XS.iloadN X2.here hx rfl (hb hby d6_16) rfl u) ?_
  refine oT (fun _ u => XS.bipush X2.here hx rfl (hb hby d6_17) u) ?_
  by_cases hc19_3 : ce0 = (59 : Int32)
  · -- pc 19: ce0 = (59 : Int32)
    refine oT (fun _ u => XS.icmpYes X2.here hx rfl (pc0 := 19) (pc' := 29) rfl (hb hby d6_19) rfl (teq hc19_3).1 (by decide) (by decide) u) ?_
    show oE _ _ _ _ (T2.setTop (mkF m 29 #[.val (.ref a), .val (.int 0), .val (.int ce0)] []))
    have zf0 : own_f ce0 = 0 := own_f0 hc19_3
    refine oT (fun _ u => XS.iconst X2.here hx rfl (hb hby d6_29) u) ?_
    refine own_leave X2 (v := some (.int (0 : Int32))) (fun h => by rw [Bd.returns] at h; cases h) ?_ (by decide) (by decide) (fun fs hr => retN X2 hx (t := .boolean) Bd.returns (by simp) (hb hby d6_30) hr)
    show Q_rmFDL2 Z a cs_ rf_ b kb ce0 ce1 h0 n0 _ T2.heap _
    rw [E2]
    exact ⟨by simp [own_all2, zf0], N2, rfl⟩
  · -- pc 19: not ce0 = (59 : Int32)
    refine oT (fun _ u => XS.icmpNo X2.here hx rfl (hb hby d6_19) rfl (feq hc19_3).1 u) ?_
    show oE _ _ _ _ (T2.setTop (mkF m 22 #[.val (.ref a), .val (.int 0), .val (.int ce0)] []))
    refine oT (fun _ u => XS.iloadN X2.here hx rfl (hb hby d6_22) rfl u) ?_
    obtain ⟨_, _, ⟨T4, L4, k4, n4⟩, -, X4, ⟨Lc4, hQ4, l4, y4, z4⟩, st4⟩ := Jvm.LawKit.callS X2 hx (y := oM5) hown (mvT hZ (ow82 hw)) (mvT hZ (ow83 hw)) (mvT hZ (ow84 hw)) (mvT hZ (ow85 hw)) (by decide) (backOf (W := 0) (rmI1 l Z a0 hw [] ce0  h0 n0 O0 ) hZ (ow85 hw) (ow84 hw) (by decide) (by decide)) (g := (mkF m 23 #[.val (.ref a), .val (.int 0), .val (.int ce0)] [(.int ce0)])) rfl (by rw [hml]; rfl) (argsL := [(.int ce0)]) (rest := []) (lenOf pd_17 rfl) rfl (by show 2 * 0 + _ ≤ _; exact Nat.le_of_eq rfl) (hb hby d6_23) (fun _ _ => ⟨rfl, E2, (own_le rfl), (own_le rfl)⟩)
    dsimp only [Pt.U, Pt.locs, Pt.cells, Pt.slots] at X4 l4 y4 z4 st4 hQ4
    subst y4 z4
    obtain ⟨rfl, N4q, E4⟩ := hQ4
    have N4 := own_fr l4 N2 N4q
    refine oT st4 ?_
    show oE _ _ _ _ (T4.setTop (mkF m 26 #[.val (.ref a), .val (.int 0), .val (.int ce0)] [(.int (own_iso ce0))]))
    by_cases hc26_5 : (own_iso ce0) = (0 : Int32)
    · -- pc 26: (own_iso ce0) = (0 : Int32)
      refine oT (fun _ u => XS.ifYes X4.here hx rfl (pc0 := 26) (pc' := 31) rfl (hb hby d6_26) rfl ((if0 _ _).trans (teq hc26_5).1) (by decide) (by decide) u) ?_
      show oE _ _ _ _ (T4.setTop (mkF m 31 #[.val (.ref a), .val (.int 0), .val (.int ce0)] []))
      have nf0 := own_f2 HE0 hc19_3 hc26_5
      refine oT (fun _ u => XS.iinc X4.here hx rfl (hb hby d6_31) rfl (l' := #[.val (.ref a), .val (.int (1 : Int32)), .val (.int ce0)]) rfl u) ?_
      show oE _ _ _ _ (T4.setTop (mkF m 34 #[.val (.ref a), .val (.int 1), .val (.int ce0)] []))
      refine oT (fun _ u => XS.goto X4.here hx rfl (pc0 := 34) (pc' := 2) rfl (hb hby d6_34) (by decide) (by decide) u) ?_
      refine oT (fun _ u => XS.iloadN X4.here hx rfl (hb hby d6_2) rfl u) ?_
      refine oT (fun _ u => XS.aloadN X4.here hx rfl (hb hby d6_3) rfl rfl u) ?_
      obtain ⟨cq6, kq6, q6a, q6b, q6c⟩ := isOf hZ E4 HT.1
      obtain ⟨_, _, ⟨T6, L6, k6, n6⟩, -, X6, ⟨Lc6, hQ6, l6, y6, z6⟩, st6⟩ := X4.virtualBack hx (y := oM24) (z := oM24) hown (mvT hZ (ow36 hw)) (mvT hZ (ow37 hw)) (notFace_of_selects (args := #[]) (mvT hZ (ow39 hw))) (mvT hZ (ow39 hw)) (mvT hZ (ow38 hw)) (by decide) (backOf (W := 1) (rmLen0 l Z a0 hw [] a cs_ rf_ b kb (2 : Int32) [(.int (ce0.toInt8.toInt32)), (.int (ce1.toInt8.toInt32))] h0 n0 O0 HS ⟨HT.1, HT.2.1, HT.2.2.1, HT.2.2.2.1⟩) hZ (ow40 hw) (ow9 hw) (by decide) (by decide)) q6a q6c (g := (mkF m 4 #[.val (.ref a), .val (.int 1), .val (.int ce0)] [(.ref a), (.int 1)])) rfl (by rw [hml]; rfl) (Steps.refl _) (argsL := []) (rest := [(.int (1 : Int32))]) (lenOf pd_15 rfl) rfl (by show 2 * 0 + _ ≤ _; exact Nat.le_of_eq rfl) (hb hby d6_4) (fun _ _ => ⟨rfl, E4, (own_le rfl), (own_le rfl)⟩)
      dsimp only [Pt.U, Pt.locs, Pt.cells, Pt.slots] at X6 l6 y6 z6 st6 hQ6
      subst y6 z6
      obtain ⟨hv6, N6q, E6⟩ := hQ6
      rw [show ((2 : Int32) >>> ((0 : Int32) &&& 31)) = (2 : Int32) from by decide] at hv6
      subst hv6
      have N6 := own_fr l6 N4 N6q
      refine own_tr st6 ?_
      show oE _ _ _ _ (T6.setTop (mkF m 7 #[.val (.ref a), .val (.int 1), .val (.int ce0)] [(.int 2), (.int 1)]))
      refine oT (fun _ u => XS.icmpNo X6.here hx rfl (hb hby d6_7) rfl (tlt (by decide)).2.1 u) ?_
      show oE _ _ _ _ (T6.setTop (mkF m 10 #[.val (.ref a), .val (.int 1), .val (.int ce0)] []))
      refine oT (fun _ u => XS.aloadN X6.here hx rfl (hb hby d6_10) rfl rfl u) ?_
      refine oT (fun _ u => XS.iloadN X6.here hx rfl (hb hby d6_11) rfl u) ?_
      obtain ⟨cq7, kq7, q7a, q7b, q7c⟩ := isOf hZ E6 HT.1
      obtain ⟨_, _, ⟨T7, L7, k7, n7⟩, -, X7, ⟨Lc7, hQ7, l7, y7, z7⟩, st7⟩ := X6.virtualBack hx (y := oM23) (z := oM23) hown (mvT hZ (ow60 hw)) (mvT hZ (ow61 hw)) (notFace_of_selects (args := #[]) (mvT hZ (ow63 hw))) (mvT hZ (ow63 hw)) (mvT hZ (ow62 hw)) (by decide) (backOf (W := 0) (rmAL l Z a0 hw [] a (1 : Int32) cs_ rf_ b kb (2 : Int32) [(.int (ce0.toInt8.toInt32)), (.int (ce1.toInt8.toInt32))] (ce1.toInt8.toInt32) h0 n0 O0 HS ⟨HT.1, HT.2.1, HT.2.2.1, HT.2.2.2.1⟩ ⟨by decide, by decide⟩ rfl) hZ (ow64 hw) (ow9 hw) (by decide) (by decide)) q7a q7c (g := (mkF m 12 #[.val (.ref a), .val (.int 1), .val (.int ce0)] [(.int 1), (.ref a)])) rfl (by rw [hml]; rfl) (Steps.refl _) (argsL := [(.int (1 : Int32))]) (rest := []) (lenOf pd_16 rfl) rfl (by show 2 * 0 + _ ≤ _; exact Nat.le_of_eq rfl) (hb hby d6_12) (fun _ _ => ⟨rfl, E6, (own_le rfl), (own_le rfl)⟩)
      dsimp only [Pt.U, Pt.locs, Pt.cells, Pt.slots] at X7 l7 y7 z7 st7 hQ7
      subst y7 z7
      obtain ⟨hv7, N7q, E7⟩ := hQ7
      rw [own_lat HE1 HT.2.2.2.2.2] at hv7
      subst hv7
      have N7 := own_fr l7 N6 N7q
      refine own_tr st7 ?_
      show oE _ _ _ _ (T7.setTop (mkF m 15 #[.val (.ref a), .val (.int 1), .val (.int ce0)] [(.int ce1)]))
      refine oT (fun _ u => XS.istoreN X7.here hx rfl (hb hby d6_15) rfl (l' := #[.val (.ref a), .val (.int (1 : Int32)), .val (.int ce1)]) rfl u) ?_
      refine oT (fun _ u => XS.iloadN X7.here hx rfl (hb hby d6_16) rfl u) ?_
      refine oT (fun _ u => XS.bipush X7.here hx rfl (hb hby d6_17) u) ?_
      by_cases hc19_8 : ce1 = (59 : Int32)
      · -- pc 19: ce1 = (59 : Int32)
        refine oT (fun _ u => XS.icmpYes X7.here hx rfl (pc0 := 19) (pc' := 29) rfl (hb hby d6_19) rfl (teq hc19_8).1 (by decide) (by decide) u) ?_
        show oE _ _ _ _ (T7.setTop (mkF m 29 #[.val (.ref a), .val (.int 1), .val (.int ce1)] []))
        have zf1 : own_f ce1 = 0 := own_f0 hc19_8
        refine oT (fun _ u => XS.iconst X7.here hx rfl (hb hby d6_29) u) ?_
        refine own_leave X7 (v := some (.int (0 : Int32))) (fun h => by rw [Bd.returns] at h; cases h) ?_ (by decide) (by decide) (fun fs hr => retN X7 hx (t := .boolean) Bd.returns (by simp) (hb hby d6_30) hr)
        show Q_rmFDL2 Z a cs_ rf_ b kb ce0 ce1 h0 n0 _ T7.heap _
        rw [E7]
        exact ⟨by simp [own_all2, nf0, zf1], N7, rfl⟩
      · -- pc 19: not ce1 = (59 : Int32)
        refine oT (fun _ u => XS.icmpNo X7.here hx rfl (hb hby d6_19) rfl (feq hc19_8).1 u) ?_
        show oE _ _ _ _ (T7.setTop (mkF m 22 #[.val (.ref a), .val (.int 1), .val (.int ce1)] []))
        refine oT (fun _ u => XS.iloadN X7.here hx rfl (hb hby d6_22) rfl u) ?_
        obtain ⟨_, _, ⟨T9, L9, k9, n9⟩, -, X9, ⟨Lc9, hQ9, l9, y9, z9⟩, st9⟩ := Jvm.LawKit.callS X7 hx (y := oM5) hown (mvT hZ (ow82 hw)) (mvT hZ (ow83 hw)) (mvT hZ (ow84 hw)) (mvT hZ (ow85 hw)) (by decide) (backOf (W := 0) (rmI1 l Z a0 hw [] ce1  h0 n0 O0 ) hZ (ow85 hw) (ow84 hw) (by decide) (by decide)) (g := (mkF m 23 #[.val (.ref a), .val (.int 1), .val (.int ce1)] [(.int ce1)])) rfl (by rw [hml]; rfl) (argsL := [(.int ce1)]) (rest := []) (lenOf pd_17 rfl) rfl (by show 2 * 0 + _ ≤ _; exact Nat.le_of_eq rfl) (hb hby d6_23) (fun _ _ => ⟨rfl, E7, (own_le rfl), (own_le rfl)⟩)
        dsimp only [Pt.U, Pt.locs, Pt.cells, Pt.slots] at X9 l9 y9 z9 st9 hQ9
        subst y9 z9
        obtain ⟨rfl, N9q, E9⟩ := hQ9
        have N9 := own_fr l9 N7 N9q
        refine oT st9 ?_
        show oE _ _ _ _ (T9.setTop (mkF m 26 #[.val (.ref a), .val (.int 1), .val (.int ce1)] [(.int (own_iso ce1))]))
        by_cases hc26_10 : (own_iso ce1) = (0 : Int32)
        · -- pc 26: (own_iso ce1) = (0 : Int32)
          refine oT (fun _ u => XS.ifYes X9.here hx rfl (pc0 := 26) (pc' := 31) rfl (hb hby d6_26) rfl ((if0 _ _).trans (teq hc26_10).1) (by decide) (by decide) u) ?_
          show oE _ _ _ _ (T9.setTop (mkF m 31 #[.val (.ref a), .val (.int 1), .val (.int ce1)] []))
          have nf1 := own_f2 HE1 hc19_8 hc26_10
          refine oT (fun _ u => XS.iinc X9.here hx rfl (hb hby d6_31) rfl (l' := #[.val (.ref a), .val (.int (2 : Int32)), .val (.int ce1)]) rfl u) ?_
          show oE _ _ _ _ (T9.setTop (mkF m 34 #[.val (.ref a), .val (.int 2), .val (.int ce1)] []))
          refine oT (fun _ u => XS.goto X9.here hx rfl (pc0 := 34) (pc' := 2) rfl (hb hby d6_34) (by decide) (by decide) u) ?_
          refine oT (fun _ u => XS.iloadN X9.here hx rfl (hb hby d6_2) rfl u) ?_
          refine oT (fun _ u => XS.aloadN X9.here hx rfl (hb hby d6_3) rfl rfl u) ?_
          obtain ⟨cq11, kq11, q11a, q11b, q11c⟩ := isOf hZ E9 HT.1
          obtain ⟨_, _, ⟨T11, L11, k11, n11⟩, -, X11, ⟨Lc11, hQ11, l11, y11, z11⟩, st11⟩ := X9.virtualBack hx (y := oM24) (z := oM24) hown (mvT hZ (ow36 hw)) (mvT hZ (ow37 hw)) (notFace_of_selects (args := #[]) (mvT hZ (ow39 hw))) (mvT hZ (ow39 hw)) (mvT hZ (ow38 hw)) (by decide) (backOf (W := 1) (rmLen0 l Z a0 hw [] a cs_ rf_ b kb (2 : Int32) [(.int (ce0.toInt8.toInt32)), (.int (ce1.toInt8.toInt32))] h0 n0 O0 HS ⟨HT.1, HT.2.1, HT.2.2.1, HT.2.2.2.1⟩) hZ (ow40 hw) (ow9 hw) (by decide) (by decide)) q11a q11c (g := (mkF m 4 #[.val (.ref a), .val (.int 2), .val (.int ce1)] [(.ref a), (.int 2)])) rfl (by rw [hml]; rfl) (Steps.refl _) (argsL := []) (rest := [(.int (2 : Int32))]) (lenOf pd_15 rfl) rfl (by show 2 * 0 + _ ≤ _; exact Nat.le_of_eq rfl) (hb hby d6_4) (fun _ _ => ⟨rfl, E9, (own_le rfl), (own_le rfl)⟩)
          dsimp only [Pt.U, Pt.locs, Pt.cells, Pt.slots] at X11 l11 y11 z11 st11 hQ11
          subst y11 z11
          obtain ⟨hv11, N11q, E11⟩ := hQ11
          rw [show ((2 : Int32) >>> ((0 : Int32) &&& 31)) = (2 : Int32) from by decide] at hv11
          subst hv11
          have N11 := own_fr l11 N9 N11q
          refine own_tr st11 ?_
          show oE _ _ _ _ (T11.setTop (mkF m 7 #[.val (.ref a), .val (.int 2), .val (.int ce1)] [(.int 2), (.int 2)]))
          refine oT (fun _ u => XS.icmpYes X11.here hx rfl (pc0 := 7) (pc' := 37) rfl (hb hby d6_7) rfl (flt (by decide)).2.1 (by decide) (by decide) u) ?_
          show oE _ _ _ _ (T11.setTop (mkF m 37 #[.val (.ref a), .val (.int 2), .val (.int ce1)] []))
          refine oT (fun _ u => XS.iconst X11.here hx rfl (hb hby d6_37) u) ?_
          refine own_leave X11 (v := some (.int (1 : Int32))) (fun h => by rw [Bd.returns] at h; cases h) ?_ (by decide) (by decide) (fun fs hr => retN X11 hx (t := .boolean) Bd.returns (by simp) (hb hby d6_38) hr)
          show Q_rmFDL2 Z a cs_ rf_ b kb ce0 ce1 h0 n0 _ T11.heap _
          rw [E11]
          exact ⟨by simp [own_all2, nf0, nf1], N11, rfl⟩
        · -- pc 26: not (own_iso ce1) = (0 : Int32)
          refine oT (fun _ u => XS.ifNo X9.here hx rfl (hb hby d6_26) rfl ((if0 _ _).trans (feq hc26_10).1) u) ?_
          show oE _ _ _ _ (T9.setTop (mkF m 29 #[.val (.ref a), .val (.int 1), .val (.int ce1)] []))
          have zf1 : own_f ce1 = 0 := own_f1 HE1 hc26_10
          refine oT (fun _ u => XS.iconst X9.here hx rfl (hb hby d6_29) u) ?_
          refine own_leave X9 (v := some (.int (0 : Int32))) (fun h => by rw [Bd.returns] at h; cases h) ?_ (by decide) (by decide) (fun fs hr => retN X9 hx (t := .boolean) Bd.returns (by simp) (hb hby d6_30) hr)
          show Q_rmFDL2 Z a cs_ rf_ b kb ce0 ce1 h0 n0 _ T9.heap _
          rw [E9]
          exact ⟨by simp [own_all2, nf0, zf1], N9, rfl⟩
    · -- pc 26: not (own_iso ce0) = (0 : Int32)
      refine oT (fun _ u => XS.ifNo X4.here hx rfl (hb hby d6_26) rfl ((if0 _ _).trans (feq hc26_5).1) u) ?_
      show oE _ _ _ _ (T4.setTop (mkF m 29 #[.val (.ref a), .val (.int 0), .val (.int ce0)] []))
      have zf0 : own_f ce0 = 0 := own_f1 HE0 hc26_5
      refine oT (fun _ u => XS.iconst X4.here hx rfl (hb hby d6_29) u) ?_
      refine own_leave X4 (v := some (.int (0 : Int32))) (fun h => by rw [Bd.returns] at h; cases h) ?_ (by decide) (by decide) (fun fs hr => retN X4 hx (t := .boolean) Bd.returns (by simp) (hb hby d6_30) hr)
      show Q_rmFDL2 Z a cs_ rf_ b kb ce0 ce1 h0 n0 _ T4.heap _
      rw [E4]
      exact ⟨by simp [own_all2, zf0], N4, rfl⟩
theorem ef_rmFDL3 (m : MethodId) (a : Addr) : entryFrame m #[(.ref a)] 3 = mkF m 0 #[.val (.ref a), .unset, .unset] [] := by first | (simp [entryFrame, mkF, argsToLocals, Value.category]; done) | rfl | (rcases ref_cases hrf with rfl | ⟨q, rfl⟩ <;> rfl)
def Q_rmFDL3 (Z : State) (a : Addr) (cs_ : Int32) (rf_ : Value) (b : Addr) (kb : ClassId) (ce0 : Int32) (ce1 : Int32) (ce2 : Int32) (h0 : Heap) (n0 : Nat) (v : Option Value) (h : Heap) (L : List Loc) : Prop := v = some (.int (own_all3 ce0 ce1 ce2)) ∧ Fr n0 L ∧ h = h0
theorem rmFDL3 (l : Launch) (Z : State) (a0 : Array Value) (hw : ∀ d ∈ tables_1, d.before a0 Z = true) (ws : List Jvm.Cond) (a : Addr) (cs_ : Int32) (rf_ : Value) (b : Addr) (kb : ClassId) (ce0 : Int32) (ce1 : Int32) (ce2 : Int32) (h0 : Heap) (n0 : Nat) (O0 : Old Z n0 h0) (HS : own_HS Z cs_ rf_) (HT : own_TL3 Z h0 a b kb ce0 ce1 ce2) (HE0 : own_Ch ce0) (HE1 : own_Ch ce1) (HE2 : own_Ch ce2) :
    MetFree l oM25 (head1 (Jvm.Cond.code oM25 prog_16_method_16_code 3 (some .boolean) :: ws) ({ frames := 5, cells := 0, slots := 0, locals := 84 } : Room)) (fun aq_ U => aq_ = #[(.ref a)] ∧ Z.Warmed39 U.vm ∧ U.heap = h0) (fun _ _ _ _ _ => True) (fun _ U o U' => ∃ v L, o = .returned v ∧ Q_rmFDL3 Z a cs_ rf_ b kb ce0 ce1 ce2 h0 n0 v U'.heap L ∧ FrameEnd U o U' L 0 0) := by
  refine MetFree.of_bodySF (plainFor_of_name pn_6) hisR ?_
  intro p e s m args below meth c s₁ Bd hml0 hP hK
  obtain ⟨rfl, hZ, hh⟩ := hP
  have hx := Bd.exec
  have hby := Bd.bytes
  have hml : c.maxLocals = 3 := hml0
  have hown : s.vm.findClass "com/example/quittance/quittance/apply/CashApplication" = some m.cls := findClass_of_methodNamed Bd.named
  have hnm := (name_of_methodNamed Bd.named Bd.method).1
  have X0 : Stand p l e ({ frames := 5, cells := 0, slots := 0, locals := 84 } : Room) s m #[(.ref a)] below meth c s₁ [] 0 0 := Stand.of_body Bd
  have e0 : s₁.heap = h0 := by rw [← hh, Bd.state]; rfl
  have N0 := Fr.nil n0
  show oE p.tables e below (own_P s (Q_rmFDL3 Z a cs_ rf_ b kb ce0 ce1 ce2 h0 n0) 0 0) _
  refine own_cast (ef_rmFDL3 m a) ?_
  show oE _ _ _ _ (s₁.setTop (mkF m 0 #[.val (.ref a), .unset, .unset] []))
  refine oT (fun _ u => XS.iconst X0.here hx rfl (hb hby d6_0) u) ?_
  refine oT (fun _ u => XS.istoreN X0.here hx rfl (hb hby d6_1) rfl (l' := #[.val (.ref a), .val (.int (0 : Int32)), .unset]) rfl u) ?_
  refine oT (fun _ u => XS.iloadN X0.here hx rfl (hb hby d6_2) rfl u) ?_
  refine oT (fun _ u => XS.aloadN X0.here hx rfl (hb hby d6_3) rfl rfl u) ?_
  obtain ⟨cq1, kq1, q1a, q1b, q1c⟩ := isOf hZ e0 HT.1
  obtain ⟨_, _, ⟨T1, L1, k1, n1⟩, -, X1, ⟨Lc1, hQ1, l1, y1, z1⟩, st1⟩ := X0.virtualBack hx (y := oM24) (z := oM24) hown (mvT hZ (ow36 hw)) (mvT hZ (ow37 hw)) (notFace_of_selects (args := #[]) (mvT hZ (ow39 hw))) (mvT hZ (ow39 hw)) (mvT hZ (ow38 hw)) (by decide) (backOf (W := 1) (rmLen0 l Z a0 hw [] a cs_ rf_ b kb (3 : Int32) [(.int (ce0.toInt8.toInt32)), (.int (ce1.toInt8.toInt32)), (.int (ce2.toInt8.toInt32))] h0 n0 O0 HS ⟨HT.1, HT.2.1, HT.2.2.1, HT.2.2.2.1⟩) hZ (ow40 hw) (ow9 hw) (by decide) (by decide)) q1a q1c (g := (mkF m 4 #[.val (.ref a), .val (.int 0), .unset] [(.ref a), (.int 0)])) rfl (by rw [hml]; rfl) (Steps.refl _) (argsL := []) (rest := [(.int (0 : Int32))]) (lenOf pd_15 rfl) rfl (by show 2 * 0 + _ ≤ _; exact Nat.le_of_eq rfl) (hb hby d6_4) (fun _ _ => ⟨rfl, e0, (own_le rfl), (own_le rfl)⟩)
  dsimp only [Pt.U, Pt.locs, Pt.cells, Pt.slots] at X1 l1 y1 z1 st1 hQ1
  subst y1 z1
  obtain ⟨hv1, N1q, E1⟩ := hQ1
  rw [show ((3 : Int32) >>> ((0 : Int32) &&& 31)) = (3 : Int32) from by decide] at hv1
  subst hv1
  have N1 := own_fr l1 N0 N1q
  refine own_tr st1 ?_
  show oE _ _ _ _ (T1.setTop (mkF m 7 #[.val (.ref a), .val (.int 0), .unset] [(.int 3), (.int 0)]))
  refine oT (fun _ u => XS.icmpNo X1.here hx rfl (hb hby d6_7) rfl (tlt (by decide)).2.1 u) ?_
  show oE _ _ _ _ (T1.setTop (mkF m 10 #[.val (.ref a), .val (.int 0), .unset] []))
  refine oT (fun _ u => XS.aloadN X1.here hx rfl (hb hby d6_10) rfl rfl u) ?_
  refine oT (fun _ u => XS.iloadN X1.here hx rfl (hb hby d6_11) rfl u) ?_
  obtain ⟨cq2, kq2, q2a, q2b, q2c⟩ := isOf hZ E1 HT.1
  obtain ⟨_, _, ⟨T2, L2, k2, n2⟩, -, X2, ⟨Lc2, hQ2, l2, y2, z2⟩, st2⟩ := X1.virtualBack hx (y := oM23) (z := oM23) hown (mvT hZ (ow60 hw)) (mvT hZ (ow61 hw)) (notFace_of_selects (args := #[]) (mvT hZ (ow63 hw))) (mvT hZ (ow63 hw)) (mvT hZ (ow62 hw)) (by decide) (backOf (W := 0) (rmAL l Z a0 hw [] a (0 : Int32) cs_ rf_ b kb (3 : Int32) [(.int (ce0.toInt8.toInt32)), (.int (ce1.toInt8.toInt32)), (.int (ce2.toInt8.toInt32))] (ce0.toInt8.toInt32) h0 n0 O0 HS ⟨HT.1, HT.2.1, HT.2.2.1, HT.2.2.2.1⟩ ⟨by decide, by decide⟩ rfl) hZ (ow64 hw) (ow9 hw) (by decide) (by decide)) q2a q2c (g := (mkF m 12 #[.val (.ref a), .val (.int 0), .unset] [(.int 0), (.ref a)])) rfl (by rw [hml]; rfl) (Steps.refl _) (argsL := [(.int (0 : Int32))]) (rest := []) (lenOf pd_16 rfl) rfl (by show 2 * 0 + _ ≤ _; exact Nat.le_of_eq rfl) (hb hby d6_12) (fun _ _ => ⟨rfl, E1, (own_le rfl), (own_le rfl)⟩)
  dsimp only [Pt.U, Pt.locs, Pt.cells, Pt.slots] at X2 l2 y2 z2 st2 hQ2
  subst y2 z2
  obtain ⟨hv2, N2q, E2⟩ := hQ2
  rw [own_lat HE0 HT.2.2.2.2.1] at hv2
  subst hv2
  have N2 := own_fr l2 N1 N2q
  refine own_tr st2 ?_
  show oE _ _ _ _ (T2.setTop (mkF m 15 #[.val (.ref a), .val (.int 0), .unset] [(.int ce0)]))
  refine oT (fun _ u => XS.istoreN X2.here hx rfl (hb hby d6_15) rfl (l' := #[.val (.ref a), .val (.int (0 : Int32)), .val (.int ce0)]) rfl u) ?_
  refine oT (fun _ u => XS.iloadN X2.here hx rfl (hb hby d6_16) rfl u) ?_
  refine oT (fun _ u => XS.bipush X2.here hx rfl (hb hby d6_17) u) ?_
  by_cases hc19_3 : ce0 = (59 : Int32)
  · -- pc 19: ce0 = (59 : Int32)
    refine oT (fun _ u => XS.icmpYes X2.here hx rfl (pc0 := 19) (pc' := 29) rfl (hb hby d6_19) rfl (teq hc19_3).1 (by decide) (by decide) u) ?_
    show oE _ _ _ _ (T2.setTop (mkF m 29 #[.val (.ref a), .val (.int 0), .val (.int ce0)] []))
    have zf0 : own_f ce0 = 0 := own_f0 hc19_3
    refine oT (fun _ u => XS.iconst X2.here hx rfl (hb hby d6_29) u) ?_
    refine own_leave X2 (v := some (.int (0 : Int32))) (fun h => by rw [Bd.returns] at h; cases h) ?_ (by decide) (by decide) (fun fs hr => retN X2 hx (t := .boolean) Bd.returns (by simp) (hb hby d6_30) hr)
    show Q_rmFDL3 Z a cs_ rf_ b kb ce0 ce1 ce2 h0 n0 _ T2.heap _
    rw [E2]
    exact ⟨by simp [own_all3, zf0], N2, rfl⟩
  · -- pc 19: not ce0 = (59 : Int32)
    refine oT (fun _ u => XS.icmpNo X2.here hx rfl (hb hby d6_19) rfl (feq hc19_3).1 u) ?_
    show oE _ _ _ _ (T2.setTop (mkF m 22 #[.val (.ref a), .val (.int 0), .val (.int ce0)] []))
    refine oT (fun _ u => XS.iloadN X2.here hx rfl (hb hby d6_22) rfl u) ?_
    obtain ⟨_, _, ⟨T4, L4, k4, n4⟩, -, X4, ⟨Lc4, hQ4, l4, y4, z4⟩, st4⟩ := Jvm.LawKit.callS X2 hx (y := oM5) hown (mvT hZ (ow82 hw)) (mvT hZ (ow83 hw)) (mvT hZ (ow84 hw)) (mvT hZ (ow85 hw)) (by decide) (backOf (W := 0) (rmI1 l Z a0 hw [] ce0  h0 n0 O0 ) hZ (ow85 hw) (ow84 hw) (by decide) (by decide)) (g := (mkF m 23 #[.val (.ref a), .val (.int 0), .val (.int ce0)] [(.int ce0)])) rfl (by rw [hml]; rfl) (argsL := [(.int ce0)]) (rest := []) (lenOf pd_17 rfl) rfl (by show 2 * 0 + _ ≤ _; exact Nat.le_of_eq rfl) (hb hby d6_23) (fun _ _ => ⟨rfl, E2, (own_le rfl), (own_le rfl)⟩)
    dsimp only [Pt.U, Pt.locs, Pt.cells, Pt.slots] at X4 l4 y4 z4 st4 hQ4
    subst y4 z4
    obtain ⟨rfl, N4q, E4⟩ := hQ4
    have N4 := own_fr l4 N2 N4q
    refine oT st4 ?_
    show oE _ _ _ _ (T4.setTop (mkF m 26 #[.val (.ref a), .val (.int 0), .val (.int ce0)] [(.int (own_iso ce0))]))
    by_cases hc26_5 : (own_iso ce0) = (0 : Int32)
    · -- pc 26: (own_iso ce0) = (0 : Int32)
      refine oT (fun _ u => XS.ifYes X4.here hx rfl (pc0 := 26) (pc' := 31) rfl (hb hby d6_26) rfl ((if0 _ _).trans (teq hc26_5).1) (by decide) (by decide) u) ?_
      show oE _ _ _ _ (T4.setTop (mkF m 31 #[.val (.ref a), .val (.int 0), .val (.int ce0)] []))
      have nf0 := own_f2 HE0 hc19_3 hc26_5
      refine oT (fun _ u => XS.iinc X4.here hx rfl (hb hby d6_31) rfl (l' := #[.val (.ref a), .val (.int (1 : Int32)), .val (.int ce0)]) rfl u) ?_
      show oE _ _ _ _ (T4.setTop (mkF m 34 #[.val (.ref a), .val (.int 1), .val (.int ce0)] []))
      refine oT (fun _ u => XS.goto X4.here hx rfl (pc0 := 34) (pc' := 2) rfl (hb hby d6_34) (by decide) (by decide) u) ?_
      refine oT (fun _ u => XS.iloadN X4.here hx rfl (hb hby d6_2) rfl u) ?_
      refine oT (fun _ u => XS.aloadN X4.here hx rfl (hb hby d6_3) rfl rfl u) ?_
      obtain ⟨cq6, kq6, q6a, q6b, q6c⟩ := isOf hZ E4 HT.1
      obtain ⟨_, _, ⟨T6, L6, k6, n6⟩, -, X6, ⟨Lc6, hQ6, l6, y6, z6⟩, st6⟩ := X4.virtualBack hx (y := oM24) (z := oM24) hown (mvT hZ (ow36 hw)) (mvT hZ (ow37 hw)) (notFace_of_selects (args := #[]) (mvT hZ (ow39 hw))) (mvT hZ (ow39 hw)) (mvT hZ (ow38 hw)) (by decide) (backOf (W := 1) (rmLen0 l Z a0 hw [] a cs_ rf_ b kb (3 : Int32) [(.int (ce0.toInt8.toInt32)), (.int (ce1.toInt8.toInt32)), (.int (ce2.toInt8.toInt32))] h0 n0 O0 HS ⟨HT.1, HT.2.1, HT.2.2.1, HT.2.2.2.1⟩) hZ (ow40 hw) (ow9 hw) (by decide) (by decide)) q6a q6c (g := (mkF m 4 #[.val (.ref a), .val (.int 1), .val (.int ce0)] [(.ref a), (.int 1)])) rfl (by rw [hml]; rfl) (Steps.refl _) (argsL := []) (rest := [(.int (1 : Int32))]) (lenOf pd_15 rfl) rfl (by show 2 * 0 + _ ≤ _; exact Nat.le_of_eq rfl) (hb hby d6_4) (fun _ _ => ⟨rfl, E4, (own_le rfl), (own_le rfl)⟩)
      dsimp only [Pt.U, Pt.locs, Pt.cells, Pt.slots] at X6 l6 y6 z6 st6 hQ6
      subst y6 z6
      obtain ⟨hv6, N6q, E6⟩ := hQ6
      rw [show ((3 : Int32) >>> ((0 : Int32) &&& 31)) = (3 : Int32) from by decide] at hv6
      subst hv6
      have N6 := own_fr l6 N4 N6q
      refine own_tr st6 ?_
      show oE _ _ _ _ (T6.setTop (mkF m 7 #[.val (.ref a), .val (.int 1), .val (.int ce0)] [(.int 3), (.int 1)]))
      refine oT (fun _ u => XS.icmpNo X6.here hx rfl (hb hby d6_7) rfl (tlt (by decide)).2.1 u) ?_
      show oE _ _ _ _ (T6.setTop (mkF m 10 #[.val (.ref a), .val (.int 1), .val (.int ce0)] []))
      refine oT (fun _ u => XS.aloadN X6.here hx rfl (hb hby d6_10) rfl rfl u) ?_
      refine oT (fun _ u => XS.iloadN X6.here hx rfl (hb hby d6_11) rfl u) ?_
      obtain ⟨cq7, kq7, q7a, q7b, q7c⟩ := isOf hZ E6 HT.1
      obtain ⟨_, _, ⟨T7, L7, k7, n7⟩, -, X7, ⟨Lc7, hQ7, l7, y7, z7⟩, st7⟩ := X6.virtualBack hx (y := oM23) (z := oM23) hown (mvT hZ (ow60 hw)) (mvT hZ (ow61 hw)) (notFace_of_selects (args := #[]) (mvT hZ (ow63 hw))) (mvT hZ (ow63 hw)) (mvT hZ (ow62 hw)) (by decide) (backOf (W := 0) (rmAL l Z a0 hw [] a (1 : Int32) cs_ rf_ b kb (3 : Int32) [(.int (ce0.toInt8.toInt32)), (.int (ce1.toInt8.toInt32)), (.int (ce2.toInt8.toInt32))] (ce1.toInt8.toInt32) h0 n0 O0 HS ⟨HT.1, HT.2.1, HT.2.2.1, HT.2.2.2.1⟩ ⟨by decide, by decide⟩ rfl) hZ (ow64 hw) (ow9 hw) (by decide) (by decide)) q7a q7c (g := (mkF m 12 #[.val (.ref a), .val (.int 1), .val (.int ce0)] [(.int 1), (.ref a)])) rfl (by rw [hml]; rfl) (Steps.refl _) (argsL := [(.int (1 : Int32))]) (rest := []) (lenOf pd_16 rfl) rfl (by show 2 * 0 + _ ≤ _; exact Nat.le_of_eq rfl) (hb hby d6_12) (fun _ _ => ⟨rfl, E6, (own_le rfl), (own_le rfl)⟩)
      dsimp only [Pt.U, Pt.locs, Pt.cells, Pt.slots] at X7 l7 y7 z7 st7 hQ7
      subst y7 z7
      obtain ⟨hv7, N7q, E7⟩ := hQ7
      rw [own_lat HE1 HT.2.2.2.2.2.1] at hv7
      subst hv7
      have N7 := own_fr l7 N6 N7q
      refine own_tr st7 ?_
      show oE _ _ _ _ (T7.setTop (mkF m 15 #[.val (.ref a), .val (.int 1), .val (.int ce0)] [(.int ce1)]))
      refine oT (fun _ u => XS.istoreN X7.here hx rfl (hb hby d6_15) rfl (l' := #[.val (.ref a), .val (.int (1 : Int32)), .val (.int ce1)]) rfl u) ?_
      refine oT (fun _ u => XS.iloadN X7.here hx rfl (hb hby d6_16) rfl u) ?_
      refine oT (fun _ u => XS.bipush X7.here hx rfl (hb hby d6_17) u) ?_
      by_cases hc19_8 : ce1 = (59 : Int32)
      · -- pc 19: ce1 = (59 : Int32)
        refine oT (fun _ u => XS.icmpYes X7.here hx rfl (pc0 := 19) (pc' := 29) rfl (hb hby d6_19) rfl (teq hc19_8).1 (by decide) (by decide) u) ?_
        show oE _ _ _ _ (T7.setTop (mkF m 29 #[.val (.ref a), .val (.int 1), .val (.int ce1)] []))
        have zf1 : own_f ce1 = 0 := own_f0 hc19_8
        refine oT (fun _ u => XS.iconst X7.here hx rfl (hb hby d6_29) u) ?_
        refine own_leave X7 (v := some (.int (0 : Int32))) (fun h => by rw [Bd.returns] at h; cases h) ?_ (by decide) (by decide) (fun fs hr => retN X7 hx (t := .boolean) Bd.returns (by simp) (hb hby d6_30) hr)
        show Q_rmFDL3 Z a cs_ rf_ b kb ce0 ce1 ce2 h0 n0 _ T7.heap _
        rw [E7]
        exact ⟨by simp [own_all3, nf0, zf1], N7, rfl⟩
      · -- pc 19: not ce1 = (59 : Int32)
        refine oT (fun _ u => XS.icmpNo X7.here hx rfl (hb hby d6_19) rfl (feq hc19_8).1 u) ?_
        show oE _ _ _ _ (T7.setTop (mkF m 22 #[.val (.ref a), .val (.int 1), .val (.int ce1)] []))
        refine oT (fun _ u => XS.iloadN X7.here hx rfl (hb hby d6_22) rfl u) ?_
        obtain ⟨_, _, ⟨T9, L9, k9, n9⟩, -, X9, ⟨Lc9, hQ9, l9, y9, z9⟩, st9⟩ := Jvm.LawKit.callS X7 hx (y := oM5) hown (mvT hZ (ow82 hw)) (mvT hZ (ow83 hw)) (mvT hZ (ow84 hw)) (mvT hZ (ow85 hw)) (by decide) (backOf (W := 0) (rmI1 l Z a0 hw [] ce1  h0 n0 O0 ) hZ (ow85 hw) (ow84 hw) (by decide) (by decide)) (g := (mkF m 23 #[.val (.ref a), .val (.int 1), .val (.int ce1)] [(.int ce1)])) rfl (by rw [hml]; rfl) (argsL := [(.int ce1)]) (rest := []) (lenOf pd_17 rfl) rfl (by show 2 * 0 + _ ≤ _; exact Nat.le_of_eq rfl) (hb hby d6_23) (fun _ _ => ⟨rfl, E7, (own_le rfl), (own_le rfl)⟩)
        dsimp only [Pt.U, Pt.locs, Pt.cells, Pt.slots] at X9 l9 y9 z9 st9 hQ9
        subst y9 z9
        obtain ⟨rfl, N9q, E9⟩ := hQ9
        have N9 := own_fr l9 N7 N9q
        refine oT st9 ?_
        show oE _ _ _ _ (T9.setTop (mkF m 26 #[.val (.ref a), .val (.int 1), .val (.int ce1)] [(.int (own_iso ce1))]))
        by_cases hc26_10 : (own_iso ce1) = (0 : Int32)
        · -- pc 26: (own_iso ce1) = (0 : Int32)
          refine oT (fun _ u => XS.ifYes X9.here hx rfl (pc0 := 26) (pc' := 31) rfl (hb hby d6_26) rfl ((if0 _ _).trans (teq hc26_10).1) (by decide) (by decide) u) ?_
          show oE _ _ _ _ (T9.setTop (mkF m 31 #[.val (.ref a), .val (.int 1), .val (.int ce1)] []))
          have nf1 := own_f2 HE1 hc19_8 hc26_10
          refine oT (fun _ u => XS.iinc X9.here hx rfl (hb hby d6_31) rfl (l' := #[.val (.ref a), .val (.int (2 : Int32)), .val (.int ce1)]) rfl u) ?_
          show oE _ _ _ _ (T9.setTop (mkF m 34 #[.val (.ref a), .val (.int 2), .val (.int ce1)] []))
          refine oT (fun _ u => XS.goto X9.here hx rfl (pc0 := 34) (pc' := 2) rfl (hb hby d6_34) (by decide) (by decide) u) ?_
          refine oT (fun _ u => XS.iloadN X9.here hx rfl (hb hby d6_2) rfl u) ?_
          refine oT (fun _ u => XS.aloadN X9.here hx rfl (hb hby d6_3) rfl rfl u) ?_
          obtain ⟨cq11, kq11, q11a, q11b, q11c⟩ := isOf hZ E9 HT.1
          obtain ⟨_, _, ⟨T11, L11, k11, n11⟩, -, X11, ⟨Lc11, hQ11, l11, y11, z11⟩, st11⟩ := X9.virtualBack hx (y := oM24) (z := oM24) hown (mvT hZ (ow36 hw)) (mvT hZ (ow37 hw)) (notFace_of_selects (args := #[]) (mvT hZ (ow39 hw))) (mvT hZ (ow39 hw)) (mvT hZ (ow38 hw)) (by decide) (backOf (W := 1) (rmLen0 l Z a0 hw [] a cs_ rf_ b kb (3 : Int32) [(.int (ce0.toInt8.toInt32)), (.int (ce1.toInt8.toInt32)), (.int (ce2.toInt8.toInt32))] h0 n0 O0 HS ⟨HT.1, HT.2.1, HT.2.2.1, HT.2.2.2.1⟩) hZ (ow40 hw) (ow9 hw) (by decide) (by decide)) q11a q11c (g := (mkF m 4 #[.val (.ref a), .val (.int 2), .val (.int ce1)] [(.ref a), (.int 2)])) rfl (by rw [hml]; rfl) (Steps.refl _) (argsL := []) (rest := [(.int (2 : Int32))]) (lenOf pd_15 rfl) rfl (by show 2 * 0 + _ ≤ _; exact Nat.le_of_eq rfl) (hb hby d6_4) (fun _ _ => ⟨rfl, E9, (own_le rfl), (own_le rfl)⟩)
          dsimp only [Pt.U, Pt.locs, Pt.cells, Pt.slots] at X11 l11 y11 z11 st11 hQ11
          subst y11 z11
          obtain ⟨hv11, N11q, E11⟩ := hQ11
          rw [show ((3 : Int32) >>> ((0 : Int32) &&& 31)) = (3 : Int32) from by decide] at hv11
          subst hv11
          have N11 := own_fr l11 N9 N11q
          refine own_tr st11 ?_
          show oE _ _ _ _ (T11.setTop (mkF m 7 #[.val (.ref a), .val (.int 2), .val (.int ce1)] [(.int 3), (.int 2)]))
          refine oT (fun _ u => XS.icmpNo X11.here hx rfl (hb hby d6_7) rfl (tlt (by decide)).2.1 u) ?_
          show oE _ _ _ _ (T11.setTop (mkF m 10 #[.val (.ref a), .val (.int 2), .val (.int ce1)] []))
          refine oT (fun _ u => XS.aloadN X11.here hx rfl (hb hby d6_10) rfl rfl u) ?_
          refine oT (fun _ u => XS.iloadN X11.here hx rfl (hb hby d6_11) rfl u) ?_
          obtain ⟨cq12, kq12, q12a, q12b, q12c⟩ := isOf hZ E11 HT.1
          obtain ⟨_, _, ⟨T12, L12, k12, n12⟩, -, X12, ⟨Lc12, hQ12, l12, y12, z12⟩, st12⟩ := X11.virtualBack hx (y := oM23) (z := oM23) hown (mvT hZ (ow60 hw)) (mvT hZ (ow61 hw)) (notFace_of_selects (args := #[]) (mvT hZ (ow63 hw))) (mvT hZ (ow63 hw)) (mvT hZ (ow62 hw)) (by decide) (backOf (W := 0) (rmAL l Z a0 hw [] a (2 : Int32) cs_ rf_ b kb (3 : Int32) [(.int (ce0.toInt8.toInt32)), (.int (ce1.toInt8.toInt32)), (.int (ce2.toInt8.toInt32))] (ce2.toInt8.toInt32) h0 n0 O0 HS ⟨HT.1, HT.2.1, HT.2.2.1, HT.2.2.2.1⟩ ⟨by decide, by decide⟩ rfl) hZ (ow64 hw) (ow9 hw) (by decide) (by decide)) q12a q12c (g := (mkF m 12 #[.val (.ref a), .val (.int 2), .val (.int ce1)] [(.int 2), (.ref a)])) rfl (by rw [hml]; rfl) (Steps.refl _) (argsL := [(.int (2 : Int32))]) (rest := []) (lenOf pd_16 rfl) rfl (by show 2 * 0 + _ ≤ _; exact Nat.le_of_eq rfl) (hb hby d6_12) (fun _ _ => ⟨rfl, E11, (own_le rfl), (own_le rfl)⟩)
          dsimp only [Pt.U, Pt.locs, Pt.cells, Pt.slots] at X12 l12 y12 z12 st12 hQ12
          subst y12 z12
          obtain ⟨hv12, N12q, E12⟩ := hQ12
          rw [own_lat HE2 HT.2.2.2.2.2.2] at hv12
          subst hv12
          have N12 := own_fr l12 N11 N12q
          refine own_tr st12 ?_
          show oE _ _ _ _ (T12.setTop (mkF m 15 #[.val (.ref a), .val (.int 2), .val (.int ce1)] [(.int ce2)]))
          refine oT (fun _ u => XS.istoreN X12.here hx rfl (hb hby d6_15) rfl (l' := #[.val (.ref a), .val (.int (2 : Int32)), .val (.int ce2)]) rfl u) ?_
          refine oT (fun _ u => XS.iloadN X12.here hx rfl (hb hby d6_16) rfl u) ?_
          refine oT (fun _ u => XS.bipush X12.here hx rfl (hb hby d6_17) u) ?_
          by_cases hc19_13 : ce2 = (59 : Int32)
          · -- pc 19: ce2 = (59 : Int32)
            refine oT (fun _ u => XS.icmpYes X12.here hx rfl (pc0 := 19) (pc' := 29) rfl (hb hby d6_19) rfl (teq hc19_13).1 (by decide) (by decide) u) ?_
            show oE _ _ _ _ (T12.setTop (mkF m 29 #[.val (.ref a), .val (.int 2), .val (.int ce2)] []))
            have zf2 : own_f ce2 = 0 := own_f0 hc19_13
            refine oT (fun _ u => XS.iconst X12.here hx rfl (hb hby d6_29) u) ?_
            refine own_leave X12 (v := some (.int (0 : Int32))) (fun h => by rw [Bd.returns] at h; cases h) ?_ (by decide) (by decide) (fun fs hr => retN X12 hx (t := .boolean) Bd.returns (by simp) (hb hby d6_30) hr)
            show Q_rmFDL3 Z a cs_ rf_ b kb ce0 ce1 ce2 h0 n0 _ T12.heap _
            rw [E12]
            exact ⟨by simp [own_all3, nf0, nf1, zf2], N12, rfl⟩
          · -- pc 19: not ce2 = (59 : Int32)
            refine oT (fun _ u => XS.icmpNo X12.here hx rfl (hb hby d6_19) rfl (feq hc19_13).1 u) ?_
            show oE _ _ _ _ (T12.setTop (mkF m 22 #[.val (.ref a), .val (.int 2), .val (.int ce2)] []))
            refine oT (fun _ u => XS.iloadN X12.here hx rfl (hb hby d6_22) rfl u) ?_
            obtain ⟨_, _, ⟨T14, L14, k14, n14⟩, -, X14, ⟨Lc14, hQ14, l14, y14, z14⟩, st14⟩ := Jvm.LawKit.callS X12 hx (y := oM5) hown (mvT hZ (ow82 hw)) (mvT hZ (ow83 hw)) (mvT hZ (ow84 hw)) (mvT hZ (ow85 hw)) (by decide) (backOf (W := 0) (rmI1 l Z a0 hw [] ce2  h0 n0 O0 ) hZ (ow85 hw) (ow84 hw) (by decide) (by decide)) (g := (mkF m 23 #[.val (.ref a), .val (.int 2), .val (.int ce2)] [(.int ce2)])) rfl (by rw [hml]; rfl) (argsL := [(.int ce2)]) (rest := []) (lenOf pd_17 rfl) rfl (by show 2 * 0 + _ ≤ _; exact Nat.le_of_eq rfl) (hb hby d6_23) (fun _ _ => ⟨rfl, E12, (own_le rfl), (own_le rfl)⟩)
            dsimp only [Pt.U, Pt.locs, Pt.cells, Pt.slots] at X14 l14 y14 z14 st14 hQ14
            subst y14 z14
            obtain ⟨rfl, N14q, E14⟩ := hQ14
            have N14 := own_fr l14 N12 N14q
            refine oT st14 ?_
            show oE _ _ _ _ (T14.setTop (mkF m 26 #[.val (.ref a), .val (.int 2), .val (.int ce2)] [(.int (own_iso ce2))]))
            by_cases hc26_15 : (own_iso ce2) = (0 : Int32)
            · -- pc 26: (own_iso ce2) = (0 : Int32)
              refine oT (fun _ u => XS.ifYes X14.here hx rfl (pc0 := 26) (pc' := 31) rfl (hb hby d6_26) rfl ((if0 _ _).trans (teq hc26_15).1) (by decide) (by decide) u) ?_
              show oE _ _ _ _ (T14.setTop (mkF m 31 #[.val (.ref a), .val (.int 2), .val (.int ce2)] []))
              have nf2 := own_f2 HE2 hc19_13 hc26_15
              refine oT (fun _ u => XS.iinc X14.here hx rfl (hb hby d6_31) rfl (l' := #[.val (.ref a), .val (.int (3 : Int32)), .val (.int ce2)]) rfl u) ?_
              show oE _ _ _ _ (T14.setTop (mkF m 34 #[.val (.ref a), .val (.int 3), .val (.int ce2)] []))
              refine oT (fun _ u => XS.goto X14.here hx rfl (pc0 := 34) (pc' := 2) rfl (hb hby d6_34) (by decide) (by decide) u) ?_
              refine oT (fun _ u => XS.iloadN X14.here hx rfl (hb hby d6_2) rfl u) ?_
              refine oT (fun _ u => XS.aloadN X14.here hx rfl (hb hby d6_3) rfl rfl u) ?_
              obtain ⟨cq16, kq16, q16a, q16b, q16c⟩ := isOf hZ E14 HT.1
              obtain ⟨_, _, ⟨T16, L16, k16, n16⟩, -, X16, ⟨Lc16, hQ16, l16, y16, z16⟩, st16⟩ := X14.virtualBack hx (y := oM24) (z := oM24) hown (mvT hZ (ow36 hw)) (mvT hZ (ow37 hw)) (notFace_of_selects (args := #[]) (mvT hZ (ow39 hw))) (mvT hZ (ow39 hw)) (mvT hZ (ow38 hw)) (by decide) (backOf (W := 1) (rmLen0 l Z a0 hw [] a cs_ rf_ b kb (3 : Int32) [(.int (ce0.toInt8.toInt32)), (.int (ce1.toInt8.toInt32)), (.int (ce2.toInt8.toInt32))] h0 n0 O0 HS ⟨HT.1, HT.2.1, HT.2.2.1, HT.2.2.2.1⟩) hZ (ow40 hw) (ow9 hw) (by decide) (by decide)) q16a q16c (g := (mkF m 4 #[.val (.ref a), .val (.int 3), .val (.int ce2)] [(.ref a), (.int 3)])) rfl (by rw [hml]; rfl) (Steps.refl _) (argsL := []) (rest := [(.int (3 : Int32))]) (lenOf pd_15 rfl) rfl (by show 2 * 0 + _ ≤ _; exact Nat.le_of_eq rfl) (hb hby d6_4) (fun _ _ => ⟨rfl, E14, (own_le rfl), (own_le rfl)⟩)
              dsimp only [Pt.U, Pt.locs, Pt.cells, Pt.slots] at X16 l16 y16 z16 st16 hQ16
              subst y16 z16
              obtain ⟨hv16, N16q, E16⟩ := hQ16
              rw [show ((3 : Int32) >>> ((0 : Int32) &&& 31)) = (3 : Int32) from by decide] at hv16
              subst hv16
              have N16 := own_fr l16 N14 N16q
              refine own_tr st16 ?_
              show oE _ _ _ _ (T16.setTop (mkF m 7 #[.val (.ref a), .val (.int 3), .val (.int ce2)] [(.int 3), (.int 3)]))
              refine oT (fun _ u => XS.icmpYes X16.here hx rfl (pc0 := 7) (pc' := 37) rfl (hb hby d6_7) rfl (flt (by decide)).2.1 (by decide) (by decide) u) ?_
              show oE _ _ _ _ (T16.setTop (mkF m 37 #[.val (.ref a), .val (.int 3), .val (.int ce2)] []))
              refine oT (fun _ u => XS.iconst X16.here hx rfl (hb hby d6_37) u) ?_
              refine own_leave X16 (v := some (.int (1 : Int32))) (fun h => by rw [Bd.returns] at h; cases h) ?_ (by decide) (by decide) (fun fs hr => retN X16 hx (t := .boolean) Bd.returns (by simp) (hb hby d6_38) hr)
              show Q_rmFDL3 Z a cs_ rf_ b kb ce0 ce1 ce2 h0 n0 _ T16.heap _
              rw [E16]
              exact ⟨by simp [own_all3, nf0, nf1, nf2], N16, rfl⟩
            · -- pc 26: not (own_iso ce2) = (0 : Int32)
              refine oT (fun _ u => XS.ifNo X14.here hx rfl (hb hby d6_26) rfl ((if0 _ _).trans (feq hc26_15).1) u) ?_
              show oE _ _ _ _ (T14.setTop (mkF m 29 #[.val (.ref a), .val (.int 2), .val (.int ce2)] []))
              have zf2 : own_f ce2 = 0 := own_f1 HE2 hc26_15
              refine oT (fun _ u => XS.iconst X14.here hx rfl (hb hby d6_29) u) ?_
              refine own_leave X14 (v := some (.int (0 : Int32))) (fun h => by rw [Bd.returns] at h; cases h) ?_ (by decide) (by decide) (fun fs hr => retN X14 hx (t := .boolean) Bd.returns (by simp) (hb hby d6_30) hr)
              show Q_rmFDL3 Z a cs_ rf_ b kb ce0 ce1 ce2 h0 n0 _ T14.heap _
              rw [E14]
              exact ⟨by simp [own_all3, nf0, nf1, zf2], N14, rfl⟩
        · -- pc 26: not (own_iso ce1) = (0 : Int32)
          refine oT (fun _ u => XS.ifNo X9.here hx rfl (hb hby d6_26) rfl ((if0 _ _).trans (feq hc26_10).1) u) ?_
          show oE _ _ _ _ (T9.setTop (mkF m 29 #[.val (.ref a), .val (.int 1), .val (.int ce1)] []))
          have zf1 : own_f ce1 = 0 := own_f1 HE1 hc26_10
          refine oT (fun _ u => XS.iconst X9.here hx rfl (hb hby d6_29) u) ?_
          refine own_leave X9 (v := some (.int (0 : Int32))) (fun h => by rw [Bd.returns] at h; cases h) ?_ (by decide) (by decide) (fun fs hr => retN X9 hx (t := .boolean) Bd.returns (by simp) (hb hby d6_30) hr)
          show Q_rmFDL3 Z a cs_ rf_ b kb ce0 ce1 ce2 h0 n0 _ T9.heap _
          rw [E9]
          exact ⟨by simp [own_all3, nf0, zf1], N9, rfl⟩
    · -- pc 26: not (own_iso ce0) = (0 : Int32)
      refine oT (fun _ u => XS.ifNo X4.here hx rfl (hb hby d6_26) rfl ((if0 _ _).trans (feq hc26_5).1) u) ?_
      show oE _ _ _ _ (T4.setTop (mkF m 29 #[.val (.ref a), .val (.int 0), .val (.int ce0)] []))
      have zf0 : own_f ce0 = 0 := own_f1 HE0 hc26_5
      refine oT (fun _ u => XS.iconst X4.here hx rfl (hb hby d6_29) u) ?_
      refine own_leave X4 (v := some (.int (0 : Int32))) (fun h => by rw [Bd.returns] at h; cases h) ?_ (by decide) (by decide) (fun fs hr => retN X4 hx (t := .boolean) Bd.returns (by simp) (hb hby d6_30) hr)
      show Q_rmFDL3 Z a cs_ rf_ b kb ce0 ce1 ce2 h0 n0 _ T4.heap _
      rw [E4]
      exact ⟨by simp [own_all3, zf0], N4, rfl⟩
theorem ef_rmFDL4 (m : MethodId) (a : Addr) : entryFrame m #[(.ref a)] 3 = mkF m 0 #[.val (.ref a), .unset, .unset] [] := by first | (simp [entryFrame, mkF, argsToLocals, Value.category]; done) | rfl | (rcases ref_cases hrf with rfl | ⟨q, rfl⟩ <;> rfl)
def Q_rmFDL4 (Z : State) (a : Addr) (cs_ : Int32) (rf_ : Value) (b : Addr) (kb : ClassId) (ce0 : Int32) (ce1 : Int32) (ce2 : Int32) (ce3 : Int32) (h0 : Heap) (n0 : Nat) (v : Option Value) (h : Heap) (L : List Loc) : Prop := v = some (.int (own_all4 ce0 ce1 ce2 ce3)) ∧ Fr n0 L ∧ h = h0
theorem rmFDL4 (l : Launch) (Z : State) (a0 : Array Value) (hw : ∀ d ∈ tables_1, d.before a0 Z = true) (ws : List Jvm.Cond) (a : Addr) (cs_ : Int32) (rf_ : Value) (b : Addr) (kb : ClassId) (ce0 : Int32) (ce1 : Int32) (ce2 : Int32) (ce3 : Int32) (h0 : Heap) (n0 : Nat) (O0 : Old Z n0 h0) (HS : own_HS Z cs_ rf_) (HT : own_TL4 Z h0 a b kb ce0 ce1 ce2 ce3) (HE0 : own_Ch ce0) (HE1 : own_Ch ce1) (HE2 : own_Ch ce2) (HE3 : own_Ch ce3) :
    MetFree l oM25 (head1 (Jvm.Cond.code oM25 prog_16_method_16_code 3 (some .boolean) :: ws) ({ frames := 5, cells := 0, slots := 0, locals := 84 } : Room)) (fun aq_ U => aq_ = #[(.ref a)] ∧ Z.Warmed39 U.vm ∧ U.heap = h0) (fun _ _ _ _ _ => True) (fun _ U o U' => ∃ v L, o = .returned v ∧ Q_rmFDL4 Z a cs_ rf_ b kb ce0 ce1 ce2 ce3 h0 n0 v U'.heap L ∧ FrameEnd U o U' L 0 0) := by
  refine MetFree.of_bodySF (plainFor_of_name pn_6) hisR ?_
  intro p e s m args below meth c s₁ Bd hml0 hP hK
  obtain ⟨rfl, hZ, hh⟩ := hP
  have hx := Bd.exec
  have hby := Bd.bytes
  have hml : c.maxLocals = 3 := hml0
  have hown : s.vm.findClass "com/example/quittance/quittance/apply/CashApplication" = some m.cls := findClass_of_methodNamed Bd.named
  have hnm := (name_of_methodNamed Bd.named Bd.method).1
  have X0 : Stand p l e ({ frames := 5, cells := 0, slots := 0, locals := 84 } : Room) s m #[(.ref a)] below meth c s₁ [] 0 0 := Stand.of_body Bd
  have e0 : s₁.heap = h0 := by rw [← hh, Bd.state]; rfl
  have N0 := Fr.nil n0
  show oE p.tables e below (own_P s (Q_rmFDL4 Z a cs_ rf_ b kb ce0 ce1 ce2 ce3 h0 n0) 0 0) _
  refine own_cast (ef_rmFDL4 m a) ?_
  show oE _ _ _ _ (s₁.setTop (mkF m 0 #[.val (.ref a), .unset, .unset] []))
  refine oT (fun _ u => XS.iconst X0.here hx rfl (hb hby d6_0) u) ?_
  refine oT (fun _ u => XS.istoreN X0.here hx rfl (hb hby d6_1) rfl (l' := #[.val (.ref a), .val (.int (0 : Int32)), .unset]) rfl u) ?_
  refine oT (fun _ u => XS.iloadN X0.here hx rfl (hb hby d6_2) rfl u) ?_
  refine oT (fun _ u => XS.aloadN X0.here hx rfl (hb hby d6_3) rfl rfl u) ?_
  obtain ⟨cq1, kq1, q1a, q1b, q1c⟩ := isOf hZ e0 HT.1
  obtain ⟨_, _, ⟨T1, L1, k1, n1⟩, -, X1, ⟨Lc1, hQ1, l1, y1, z1⟩, st1⟩ := X0.virtualBack hx (y := oM24) (z := oM24) hown (mvT hZ (ow36 hw)) (mvT hZ (ow37 hw)) (notFace_of_selects (args := #[]) (mvT hZ (ow39 hw))) (mvT hZ (ow39 hw)) (mvT hZ (ow38 hw)) (by decide) (backOf (W := 1) (rmLen0 l Z a0 hw [] a cs_ rf_ b kb (4 : Int32) [(.int (ce0.toInt8.toInt32)), (.int (ce1.toInt8.toInt32)), (.int (ce2.toInt8.toInt32)), (.int (ce3.toInt8.toInt32))] h0 n0 O0 HS ⟨HT.1, HT.2.1, HT.2.2.1, HT.2.2.2.1⟩) hZ (ow40 hw) (ow9 hw) (by decide) (by decide)) q1a q1c (g := (mkF m 4 #[.val (.ref a), .val (.int 0), .unset] [(.ref a), (.int 0)])) rfl (by rw [hml]; rfl) (Steps.refl _) (argsL := []) (rest := [(.int (0 : Int32))]) (lenOf pd_15 rfl) rfl (by show 2 * 0 + _ ≤ _; exact Nat.le_of_eq rfl) (hb hby d6_4) (fun _ _ => ⟨rfl, e0, (own_le rfl), (own_le rfl)⟩)
  dsimp only [Pt.U, Pt.locs, Pt.cells, Pt.slots] at X1 l1 y1 z1 st1 hQ1
  subst y1 z1
  obtain ⟨hv1, N1q, E1⟩ := hQ1
  rw [show ((4 : Int32) >>> ((0 : Int32) &&& 31)) = (4 : Int32) from by decide] at hv1
  subst hv1
  have N1 := own_fr l1 N0 N1q
  refine own_tr st1 ?_
  show oE _ _ _ _ (T1.setTop (mkF m 7 #[.val (.ref a), .val (.int 0), .unset] [(.int 4), (.int 0)]))
  refine oT (fun _ u => XS.icmpNo X1.here hx rfl (hb hby d6_7) rfl (tlt (by decide)).2.1 u) ?_
  show oE _ _ _ _ (T1.setTop (mkF m 10 #[.val (.ref a), .val (.int 0), .unset] []))
  refine oT (fun _ u => XS.aloadN X1.here hx rfl (hb hby d6_10) rfl rfl u) ?_
  refine oT (fun _ u => XS.iloadN X1.here hx rfl (hb hby d6_11) rfl u) ?_
  obtain ⟨cq2, kq2, q2a, q2b, q2c⟩ := isOf hZ E1 HT.1
  obtain ⟨_, _, ⟨T2, L2, k2, n2⟩, -, X2, ⟨Lc2, hQ2, l2, y2, z2⟩, st2⟩ := X1.virtualBack hx (y := oM23) (z := oM23) hown (mvT hZ (ow60 hw)) (mvT hZ (ow61 hw)) (notFace_of_selects (args := #[]) (mvT hZ (ow63 hw))) (mvT hZ (ow63 hw)) (mvT hZ (ow62 hw)) (by decide) (backOf (W := 0) (rmAL l Z a0 hw [] a (0 : Int32) cs_ rf_ b kb (4 : Int32) [(.int (ce0.toInt8.toInt32)), (.int (ce1.toInt8.toInt32)), (.int (ce2.toInt8.toInt32)), (.int (ce3.toInt8.toInt32))] (ce0.toInt8.toInt32) h0 n0 O0 HS ⟨HT.1, HT.2.1, HT.2.2.1, HT.2.2.2.1⟩ ⟨by decide, by decide⟩ rfl) hZ (ow64 hw) (ow9 hw) (by decide) (by decide)) q2a q2c (g := (mkF m 12 #[.val (.ref a), .val (.int 0), .unset] [(.int 0), (.ref a)])) rfl (by rw [hml]; rfl) (Steps.refl _) (argsL := [(.int (0 : Int32))]) (rest := []) (lenOf pd_16 rfl) rfl (by show 2 * 0 + _ ≤ _; exact Nat.le_of_eq rfl) (hb hby d6_12) (fun _ _ => ⟨rfl, E1, (own_le rfl), (own_le rfl)⟩)
  dsimp only [Pt.U, Pt.locs, Pt.cells, Pt.slots] at X2 l2 y2 z2 st2 hQ2
  subst y2 z2
  obtain ⟨hv2, N2q, E2⟩ := hQ2
  rw [own_lat HE0 HT.2.2.2.2.1] at hv2
  subst hv2
  have N2 := own_fr l2 N1 N2q
  refine own_tr st2 ?_
  show oE _ _ _ _ (T2.setTop (mkF m 15 #[.val (.ref a), .val (.int 0), .unset] [(.int ce0)]))
  refine oT (fun _ u => XS.istoreN X2.here hx rfl (hb hby d6_15) rfl (l' := #[.val (.ref a), .val (.int (0 : Int32)), .val (.int ce0)]) rfl u) ?_
  refine oT (fun _ u => XS.iloadN X2.here hx rfl (hb hby d6_16) rfl u) ?_
  refine oT (fun _ u => XS.bipush X2.here hx rfl (hb hby d6_17) u) ?_
  by_cases hc19_3 : ce0 = (59 : Int32)
  · -- pc 19: ce0 = (59 : Int32)
    refine oT (fun _ u => XS.icmpYes X2.here hx rfl (pc0 := 19) (pc' := 29) rfl (hb hby d6_19) rfl (teq hc19_3).1 (by decide) (by decide) u) ?_
    show oE _ _ _ _ (T2.setTop (mkF m 29 #[.val (.ref a), .val (.int 0), .val (.int ce0)] []))
    have zf0 : own_f ce0 = 0 := own_f0 hc19_3
    refine oT (fun _ u => XS.iconst X2.here hx rfl (hb hby d6_29) u) ?_
    refine own_leave X2 (v := some (.int (0 : Int32))) (fun h => by rw [Bd.returns] at h; cases h) ?_ (by decide) (by decide) (fun fs hr => retN X2 hx (t := .boolean) Bd.returns (by simp) (hb hby d6_30) hr)
    show Q_rmFDL4 Z a cs_ rf_ b kb ce0 ce1 ce2 ce3 h0 n0 _ T2.heap _
    rw [E2]
    exact ⟨by simp [own_all4, zf0], N2, rfl⟩
  · -- pc 19: not ce0 = (59 : Int32)
    refine oT (fun _ u => XS.icmpNo X2.here hx rfl (hb hby d6_19) rfl (feq hc19_3).1 u) ?_
    show oE _ _ _ _ (T2.setTop (mkF m 22 #[.val (.ref a), .val (.int 0), .val (.int ce0)] []))
    refine oT (fun _ u => XS.iloadN X2.here hx rfl (hb hby d6_22) rfl u) ?_
    obtain ⟨_, _, ⟨T4, L4, k4, n4⟩, -, X4, ⟨Lc4, hQ4, l4, y4, z4⟩, st4⟩ := Jvm.LawKit.callS X2 hx (y := oM5) hown (mvT hZ (ow82 hw)) (mvT hZ (ow83 hw)) (mvT hZ (ow84 hw)) (mvT hZ (ow85 hw)) (by decide) (backOf (W := 0) (rmI1 l Z a0 hw [] ce0  h0 n0 O0 ) hZ (ow85 hw) (ow84 hw) (by decide) (by decide)) (g := (mkF m 23 #[.val (.ref a), .val (.int 0), .val (.int ce0)] [(.int ce0)])) rfl (by rw [hml]; rfl) (argsL := [(.int ce0)]) (rest := []) (lenOf pd_17 rfl) rfl (by show 2 * 0 + _ ≤ _; exact Nat.le_of_eq rfl) (hb hby d6_23) (fun _ _ => ⟨rfl, E2, (own_le rfl), (own_le rfl)⟩)
    dsimp only [Pt.U, Pt.locs, Pt.cells, Pt.slots] at X4 l4 y4 z4 st4 hQ4
    subst y4 z4
    obtain ⟨rfl, N4q, E4⟩ := hQ4
    have N4 := own_fr l4 N2 N4q
    refine oT st4 ?_
    show oE _ _ _ _ (T4.setTop (mkF m 26 #[.val (.ref a), .val (.int 0), .val (.int ce0)] [(.int (own_iso ce0))]))
    by_cases hc26_5 : (own_iso ce0) = (0 : Int32)
    · -- pc 26: (own_iso ce0) = (0 : Int32)
      refine oT (fun _ u => XS.ifYes X4.here hx rfl (pc0 := 26) (pc' := 31) rfl (hb hby d6_26) rfl ((if0 _ _).trans (teq hc26_5).1) (by decide) (by decide) u) ?_
      show oE _ _ _ _ (T4.setTop (mkF m 31 #[.val (.ref a), .val (.int 0), .val (.int ce0)] []))
      have nf0 := own_f2 HE0 hc19_3 hc26_5
      refine oT (fun _ u => XS.iinc X4.here hx rfl (hb hby d6_31) rfl (l' := #[.val (.ref a), .val (.int (1 : Int32)), .val (.int ce0)]) rfl u) ?_
      show oE _ _ _ _ (T4.setTop (mkF m 34 #[.val (.ref a), .val (.int 1), .val (.int ce0)] []))
      refine oT (fun _ u => XS.goto X4.here hx rfl (pc0 := 34) (pc' := 2) rfl (hb hby d6_34) (by decide) (by decide) u) ?_
      refine oT (fun _ u => XS.iloadN X4.here hx rfl (hb hby d6_2) rfl u) ?_
      refine oT (fun _ u => XS.aloadN X4.here hx rfl (hb hby d6_3) rfl rfl u) ?_
      obtain ⟨cq6, kq6, q6a, q6b, q6c⟩ := isOf hZ E4 HT.1
      obtain ⟨_, _, ⟨T6, L6, k6, n6⟩, -, X6, ⟨Lc6, hQ6, l6, y6, z6⟩, st6⟩ := X4.virtualBack hx (y := oM24) (z := oM24) hown (mvT hZ (ow36 hw)) (mvT hZ (ow37 hw)) (notFace_of_selects (args := #[]) (mvT hZ (ow39 hw))) (mvT hZ (ow39 hw)) (mvT hZ (ow38 hw)) (by decide) (backOf (W := 1) (rmLen0 l Z a0 hw [] a cs_ rf_ b kb (4 : Int32) [(.int (ce0.toInt8.toInt32)), (.int (ce1.toInt8.toInt32)), (.int (ce2.toInt8.toInt32)), (.int (ce3.toInt8.toInt32))] h0 n0 O0 HS ⟨HT.1, HT.2.1, HT.2.2.1, HT.2.2.2.1⟩) hZ (ow40 hw) (ow9 hw) (by decide) (by decide)) q6a q6c (g := (mkF m 4 #[.val (.ref a), .val (.int 1), .val (.int ce0)] [(.ref a), (.int 1)])) rfl (by rw [hml]; rfl) (Steps.refl _) (argsL := []) (rest := [(.int (1 : Int32))]) (lenOf pd_15 rfl) rfl (by show 2 * 0 + _ ≤ _; exact Nat.le_of_eq rfl) (hb hby d6_4) (fun _ _ => ⟨rfl, E4, (own_le rfl), (own_le rfl)⟩)
      dsimp only [Pt.U, Pt.locs, Pt.cells, Pt.slots] at X6 l6 y6 z6 st6 hQ6
      subst y6 z6
      obtain ⟨hv6, N6q, E6⟩ := hQ6
      rw [show ((4 : Int32) >>> ((0 : Int32) &&& 31)) = (4 : Int32) from by decide] at hv6
      subst hv6
      have N6 := own_fr l6 N4 N6q
      refine own_tr st6 ?_
      show oE _ _ _ _ (T6.setTop (mkF m 7 #[.val (.ref a), .val (.int 1), .val (.int ce0)] [(.int 4), (.int 1)]))
      refine oT (fun _ u => XS.icmpNo X6.here hx rfl (hb hby d6_7) rfl (tlt (by decide)).2.1 u) ?_
      show oE _ _ _ _ (T6.setTop (mkF m 10 #[.val (.ref a), .val (.int 1), .val (.int ce0)] []))
      refine oT (fun _ u => XS.aloadN X6.here hx rfl (hb hby d6_10) rfl rfl u) ?_
      refine oT (fun _ u => XS.iloadN X6.here hx rfl (hb hby d6_11) rfl u) ?_
      obtain ⟨cq7, kq7, q7a, q7b, q7c⟩ := isOf hZ E6 HT.1
      obtain ⟨_, _, ⟨T7, L7, k7, n7⟩, -, X7, ⟨Lc7, hQ7, l7, y7, z7⟩, st7⟩ := X6.virtualBack hx (y := oM23) (z := oM23) hown (mvT hZ (ow60 hw)) (mvT hZ (ow61 hw)) (notFace_of_selects (args := #[]) (mvT hZ (ow63 hw))) (mvT hZ (ow63 hw)) (mvT hZ (ow62 hw)) (by decide) (backOf (W := 0) (rmAL l Z a0 hw [] a (1 : Int32) cs_ rf_ b kb (4 : Int32) [(.int (ce0.toInt8.toInt32)), (.int (ce1.toInt8.toInt32)), (.int (ce2.toInt8.toInt32)), (.int (ce3.toInt8.toInt32))] (ce1.toInt8.toInt32) h0 n0 O0 HS ⟨HT.1, HT.2.1, HT.2.2.1, HT.2.2.2.1⟩ ⟨by decide, by decide⟩ rfl) hZ (ow64 hw) (ow9 hw) (by decide) (by decide)) q7a q7c (g := (mkF m 12 #[.val (.ref a), .val (.int 1), .val (.int ce0)] [(.int 1), (.ref a)])) rfl (by rw [hml]; rfl) (Steps.refl _) (argsL := [(.int (1 : Int32))]) (rest := []) (lenOf pd_16 rfl) rfl (by show 2 * 0 + _ ≤ _; exact Nat.le_of_eq rfl) (hb hby d6_12) (fun _ _ => ⟨rfl, E6, (own_le rfl), (own_le rfl)⟩)
      dsimp only [Pt.U, Pt.locs, Pt.cells, Pt.slots] at X7 l7 y7 z7 st7 hQ7
      subst y7 z7
      obtain ⟨hv7, N7q, E7⟩ := hQ7
      rw [own_lat HE1 HT.2.2.2.2.2.1] at hv7
      subst hv7
      have N7 := own_fr l7 N6 N7q
      refine own_tr st7 ?_
      show oE _ _ _ _ (T7.setTop (mkF m 15 #[.val (.ref a), .val (.int 1), .val (.int ce0)] [(.int ce1)]))
      refine oT (fun _ u => XS.istoreN X7.here hx rfl (hb hby d6_15) rfl (l' := #[.val (.ref a), .val (.int (1 : Int32)), .val (.int ce1)]) rfl u) ?_
      refine oT (fun _ u => XS.iloadN X7.here hx rfl (hb hby d6_16) rfl u) ?_
      refine oT (fun _ u => XS.bipush X7.here hx rfl (hb hby d6_17) u) ?_
      by_cases hc19_8 : ce1 = (59 : Int32)
      · -- pc 19: ce1 = (59 : Int32)
        refine oT (fun _ u => XS.icmpYes X7.here hx rfl (pc0 := 19) (pc' := 29) rfl (hb hby d6_19) rfl (teq hc19_8).1 (by decide) (by decide) u) ?_
        show oE _ _ _ _ (T7.setTop (mkF m 29 #[.val (.ref a), .val (.int 1), .val (.int ce1)] []))
        have zf1 : own_f ce1 = 0 := own_f0 hc19_8
        refine oT (fun _ u => XS.iconst X7.here hx rfl (hb hby d6_29) u) ?_
        refine own_leave X7 (v := some (.int (0 : Int32))) (fun h => by rw [Bd.returns] at h; cases h) ?_ (by decide) (by decide) (fun fs hr => retN X7 hx (t := .boolean) Bd.returns (by simp) (hb hby d6_30) hr)
        show Q_rmFDL4 Z a cs_ rf_ b kb ce0 ce1 ce2 ce3 h0 n0 _ T7.heap _
        rw [E7]
        exact ⟨by simp [own_all4, nf0, zf1], N7, rfl⟩
      · -- pc 19: not ce1 = (59 : Int32)
        refine oT (fun _ u => XS.icmpNo X7.here hx rfl (hb hby d6_19) rfl (feq hc19_8).1 u) ?_
        show oE _ _ _ _ (T7.setTop (mkF m 22 #[.val (.ref a), .val (.int 1), .val (.int ce1)] []))
        refine oT (fun _ u => XS.iloadN X7.here hx rfl (hb hby d6_22) rfl u) ?_
        obtain ⟨_, _, ⟨T9, L9, k9, n9⟩, -, X9, ⟨Lc9, hQ9, l9, y9, z9⟩, st9⟩ := Jvm.LawKit.callS X7 hx (y := oM5) hown (mvT hZ (ow82 hw)) (mvT hZ (ow83 hw)) (mvT hZ (ow84 hw)) (mvT hZ (ow85 hw)) (by decide) (backOf (W := 0) (rmI1 l Z a0 hw [] ce1  h0 n0 O0 ) hZ (ow85 hw) (ow84 hw) (by decide) (by decide)) (g := (mkF m 23 #[.val (.ref a), .val (.int 1), .val (.int ce1)] [(.int ce1)])) rfl (by rw [hml]; rfl) (argsL := [(.int ce1)]) (rest := []) (lenOf pd_17 rfl) rfl (by show 2 * 0 + _ ≤ _; exact Nat.le_of_eq rfl) (hb hby d6_23) (fun _ _ => ⟨rfl, E7, (own_le rfl), (own_le rfl)⟩)
        dsimp only [Pt.U, Pt.locs, Pt.cells, Pt.slots] at X9 l9 y9 z9 st9 hQ9
        subst y9 z9
        obtain ⟨rfl, N9q, E9⟩ := hQ9
        have N9 := own_fr l9 N7 N9q
        refine oT st9 ?_
        show oE _ _ _ _ (T9.setTop (mkF m 26 #[.val (.ref a), .val (.int 1), .val (.int ce1)] [(.int (own_iso ce1))]))
        by_cases hc26_10 : (own_iso ce1) = (0 : Int32)
        · -- pc 26: (own_iso ce1) = (0 : Int32)
          refine oT (fun _ u => XS.ifYes X9.here hx rfl (pc0 := 26) (pc' := 31) rfl (hb hby d6_26) rfl ((if0 _ _).trans (teq hc26_10).1) (by decide) (by decide) u) ?_
          show oE _ _ _ _ (T9.setTop (mkF m 31 #[.val (.ref a), .val (.int 1), .val (.int ce1)] []))
          have nf1 := own_f2 HE1 hc19_8 hc26_10
          refine oT (fun _ u => XS.iinc X9.here hx rfl (hb hby d6_31) rfl (l' := #[.val (.ref a), .val (.int (2 : Int32)), .val (.int ce1)]) rfl u) ?_
          show oE _ _ _ _ (T9.setTop (mkF m 34 #[.val (.ref a), .val (.int 2), .val (.int ce1)] []))
          refine oT (fun _ u => XS.goto X9.here hx rfl (pc0 := 34) (pc' := 2) rfl (hb hby d6_34) (by decide) (by decide) u) ?_
          refine oT (fun _ u => XS.iloadN X9.here hx rfl (hb hby d6_2) rfl u) ?_
          refine oT (fun _ u => XS.aloadN X9.here hx rfl (hb hby d6_3) rfl rfl u) ?_
          obtain ⟨cq11, kq11, q11a, q11b, q11c⟩ := isOf hZ E9 HT.1
          obtain ⟨_, _, ⟨T11, L11, k11, n11⟩, -, X11, ⟨Lc11, hQ11, l11, y11, z11⟩, st11⟩ := X9.virtualBack hx (y := oM24) (z := oM24) hown (mvT hZ (ow36 hw)) (mvT hZ (ow37 hw)) (notFace_of_selects (args := #[]) (mvT hZ (ow39 hw))) (mvT hZ (ow39 hw)) (mvT hZ (ow38 hw)) (by decide) (backOf (W := 1) (rmLen0 l Z a0 hw [] a cs_ rf_ b kb (4 : Int32) [(.int (ce0.toInt8.toInt32)), (.int (ce1.toInt8.toInt32)), (.int (ce2.toInt8.toInt32)), (.int (ce3.toInt8.toInt32))] h0 n0 O0 HS ⟨HT.1, HT.2.1, HT.2.2.1, HT.2.2.2.1⟩) hZ (ow40 hw) (ow9 hw) (by decide) (by decide)) q11a q11c (g := (mkF m 4 #[.val (.ref a), .val (.int 2), .val (.int ce1)] [(.ref a), (.int 2)])) rfl (by rw [hml]; rfl) (Steps.refl _) (argsL := []) (rest := [(.int (2 : Int32))]) (lenOf pd_15 rfl) rfl (by show 2 * 0 + _ ≤ _; exact Nat.le_of_eq rfl) (hb hby d6_4) (fun _ _ => ⟨rfl, E9, (own_le rfl), (own_le rfl)⟩)
          dsimp only [Pt.U, Pt.locs, Pt.cells, Pt.slots] at X11 l11 y11 z11 st11 hQ11
          subst y11 z11
          obtain ⟨hv11, N11q, E11⟩ := hQ11
          rw [show ((4 : Int32) >>> ((0 : Int32) &&& 31)) = (4 : Int32) from by decide] at hv11
          subst hv11
          have N11 := own_fr l11 N9 N11q
          refine own_tr st11 ?_
          show oE _ _ _ _ (T11.setTop (mkF m 7 #[.val (.ref a), .val (.int 2), .val (.int ce1)] [(.int 4), (.int 2)]))
          refine oT (fun _ u => XS.icmpNo X11.here hx rfl (hb hby d6_7) rfl (tlt (by decide)).2.1 u) ?_
          show oE _ _ _ _ (T11.setTop (mkF m 10 #[.val (.ref a), .val (.int 2), .val (.int ce1)] []))
          refine oT (fun _ u => XS.aloadN X11.here hx rfl (hb hby d6_10) rfl rfl u) ?_
          refine oT (fun _ u => XS.iloadN X11.here hx rfl (hb hby d6_11) rfl u) ?_
          obtain ⟨cq12, kq12, q12a, q12b, q12c⟩ := isOf hZ E11 HT.1
          obtain ⟨_, _, ⟨T12, L12, k12, n12⟩, -, X12, ⟨Lc12, hQ12, l12, y12, z12⟩, st12⟩ := X11.virtualBack hx (y := oM23) (z := oM23) hown (mvT hZ (ow60 hw)) (mvT hZ (ow61 hw)) (notFace_of_selects (args := #[]) (mvT hZ (ow63 hw))) (mvT hZ (ow63 hw)) (mvT hZ (ow62 hw)) (by decide) (backOf (W := 0) (rmAL l Z a0 hw [] a (2 : Int32) cs_ rf_ b kb (4 : Int32) [(.int (ce0.toInt8.toInt32)), (.int (ce1.toInt8.toInt32)), (.int (ce2.toInt8.toInt32)), (.int (ce3.toInt8.toInt32))] (ce2.toInt8.toInt32) h0 n0 O0 HS ⟨HT.1, HT.2.1, HT.2.2.1, HT.2.2.2.1⟩ ⟨by decide, by decide⟩ rfl) hZ (ow64 hw) (ow9 hw) (by decide) (by decide)) q12a q12c (g := (mkF m 12 #[.val (.ref a), .val (.int 2), .val (.int ce1)] [(.int 2), (.ref a)])) rfl (by rw [hml]; rfl) (Steps.refl _) (argsL := [(.int (2 : Int32))]) (rest := []) (lenOf pd_16 rfl) rfl (by show 2 * 0 + _ ≤ _; exact Nat.le_of_eq rfl) (hb hby d6_12) (fun _ _ => ⟨rfl, E11, (own_le rfl), (own_le rfl)⟩)
          dsimp only [Pt.U, Pt.locs, Pt.cells, Pt.slots] at X12 l12 y12 z12 st12 hQ12
          subst y12 z12
          obtain ⟨hv12, N12q, E12⟩ := hQ12
          rw [own_lat HE2 HT.2.2.2.2.2.2.1] at hv12
          subst hv12
          have N12 := own_fr l12 N11 N12q
          refine own_tr st12 ?_
          show oE _ _ _ _ (T12.setTop (mkF m 15 #[.val (.ref a), .val (.int 2), .val (.int ce1)] [(.int ce2)]))
          refine oT (fun _ u => XS.istoreN X12.here hx rfl (hb hby d6_15) rfl (l' := #[.val (.ref a), .val (.int (2 : Int32)), .val (.int ce2)]) rfl u) ?_
          refine oT (fun _ u => XS.iloadN X12.here hx rfl (hb hby d6_16) rfl u) ?_
          refine oT (fun _ u => XS.bipush X12.here hx rfl (hb hby d6_17) u) ?_
          by_cases hc19_13 : ce2 = (59 : Int32)
          · -- pc 19: ce2 = (59 : Int32)
            refine oT (fun _ u => XS.icmpYes X12.here hx rfl (pc0 := 19) (pc' := 29) rfl (hb hby d6_19) rfl (teq hc19_13).1 (by decide) (by decide) u) ?_
            show oE _ _ _ _ (T12.setTop (mkF m 29 #[.val (.ref a), .val (.int 2), .val (.int ce2)] []))
            have zf2 : own_f ce2 = 0 := own_f0 hc19_13
            refine oT (fun _ u => XS.iconst X12.here hx rfl (hb hby d6_29) u) ?_
            refine own_leave X12 (v := some (.int (0 : Int32))) (fun h => by rw [Bd.returns] at h; cases h) ?_ (by decide) (by decide) (fun fs hr => retN X12 hx (t := .boolean) Bd.returns (by simp) (hb hby d6_30) hr)
            show Q_rmFDL4 Z a cs_ rf_ b kb ce0 ce1 ce2 ce3 h0 n0 _ T12.heap _
            rw [E12]
            exact ⟨by simp [own_all4, nf0, nf1, zf2], N12, rfl⟩
          · -- pc 19: not ce2 = (59 : Int32)
            refine oT (fun _ u => XS.icmpNo X12.here hx rfl (hb hby d6_19) rfl (feq hc19_13).1 u) ?_
            show oE _ _ _ _ (T12.setTop (mkF m 22 #[.val (.ref a), .val (.int 2), .val (.int ce2)] []))
            refine oT (fun _ u => XS.iloadN X12.here hx rfl (hb hby d6_22) rfl u) ?_
            obtain ⟨_, _, ⟨T14, L14, k14, n14⟩, -, X14, ⟨Lc14, hQ14, l14, y14, z14⟩, st14⟩ := Jvm.LawKit.callS X12 hx (y := oM5) hown (mvT hZ (ow82 hw)) (mvT hZ (ow83 hw)) (mvT hZ (ow84 hw)) (mvT hZ (ow85 hw)) (by decide) (backOf (W := 0) (rmI1 l Z a0 hw [] ce2  h0 n0 O0 ) hZ (ow85 hw) (ow84 hw) (by decide) (by decide)) (g := (mkF m 23 #[.val (.ref a), .val (.int 2), .val (.int ce2)] [(.int ce2)])) rfl (by rw [hml]; rfl) (argsL := [(.int ce2)]) (rest := []) (lenOf pd_17 rfl) rfl (by show 2 * 0 + _ ≤ _; exact Nat.le_of_eq rfl) (hb hby d6_23) (fun _ _ => ⟨rfl, E12, (own_le rfl), (own_le rfl)⟩)
            dsimp only [Pt.U, Pt.locs, Pt.cells, Pt.slots] at X14 l14 y14 z14 st14 hQ14
            subst y14 z14
            obtain ⟨rfl, N14q, E14⟩ := hQ14
            have N14 := own_fr l14 N12 N14q
            refine oT st14 ?_
            show oE _ _ _ _ (T14.setTop (mkF m 26 #[.val (.ref a), .val (.int 2), .val (.int ce2)] [(.int (own_iso ce2))]))
            by_cases hc26_15 : (own_iso ce2) = (0 : Int32)
            · -- pc 26: (own_iso ce2) = (0 : Int32)
              refine oT (fun _ u => XS.ifYes X14.here hx rfl (pc0 := 26) (pc' := 31) rfl (hb hby d6_26) rfl ((if0 _ _).trans (teq hc26_15).1) (by decide) (by decide) u) ?_
              show oE _ _ _ _ (T14.setTop (mkF m 31 #[.val (.ref a), .val (.int 2), .val (.int ce2)] []))
              have nf2 := own_f2 HE2 hc19_13 hc26_15
              refine oT (fun _ u => XS.iinc X14.here hx rfl (hb hby d6_31) rfl (l' := #[.val (.ref a), .val (.int (3 : Int32)), .val (.int ce2)]) rfl u) ?_
              show oE _ _ _ _ (T14.setTop (mkF m 34 #[.val (.ref a), .val (.int 3), .val (.int ce2)] []))
              refine oT (fun _ u => XS.goto X14.here hx rfl (pc0 := 34) (pc' := 2) rfl (hb hby d6_34) (by decide) (by decide) u) ?_
              refine oT (fun _ u => XS.iloadN X14.here hx rfl (hb hby d6_2) rfl u) ?_
              refine oT (fun _ u => XS.aloadN X14.here hx rfl (hb hby d6_3) rfl rfl u) ?_
              obtain ⟨cq16, kq16, q16a, q16b, q16c⟩ := isOf hZ E14 HT.1
              obtain ⟨_, _, ⟨T16, L16, k16, n16⟩, -, X16, ⟨Lc16, hQ16, l16, y16, z16⟩, st16⟩ := X14.virtualBack hx (y := oM24) (z := oM24) hown (mvT hZ (ow36 hw)) (mvT hZ (ow37 hw)) (notFace_of_selects (args := #[]) (mvT hZ (ow39 hw))) (mvT hZ (ow39 hw)) (mvT hZ (ow38 hw)) (by decide) (backOf (W := 1) (rmLen0 l Z a0 hw [] a cs_ rf_ b kb (4 : Int32) [(.int (ce0.toInt8.toInt32)), (.int (ce1.toInt8.toInt32)), (.int (ce2.toInt8.toInt32)), (.int (ce3.toInt8.toInt32))] h0 n0 O0 HS ⟨HT.1, HT.2.1, HT.2.2.1, HT.2.2.2.1⟩) hZ (ow40 hw) (ow9 hw) (by decide) (by decide)) q16a q16c (g := (mkF m 4 #[.val (.ref a), .val (.int 3), .val (.int ce2)] [(.ref a), (.int 3)])) rfl (by rw [hml]; rfl) (Steps.refl _) (argsL := []) (rest := [(.int (3 : Int32))]) (lenOf pd_15 rfl) rfl (by show 2 * 0 + _ ≤ _; exact Nat.le_of_eq rfl) (hb hby d6_4) (fun _ _ => ⟨rfl, E14, (own_le rfl), (own_le rfl)⟩)
              dsimp only [Pt.U, Pt.locs, Pt.cells, Pt.slots] at X16 l16 y16 z16 st16 hQ16
              subst y16 z16
              obtain ⟨hv16, N16q, E16⟩ := hQ16
              rw [show ((4 : Int32) >>> ((0 : Int32) &&& 31)) = (4 : Int32) from by decide] at hv16
              subst hv16
              have N16 := own_fr l16 N14 N16q
              refine own_tr st16 ?_
              show oE _ _ _ _ (T16.setTop (mkF m 7 #[.val (.ref a), .val (.int 3), .val (.int ce2)] [(.int 4), (.int 3)]))
              refine oT (fun _ u => XS.icmpNo X16.here hx rfl (hb hby d6_7) rfl (tlt (by decide)).2.1 u) ?_
              show oE _ _ _ _ (T16.setTop (mkF m 10 #[.val (.ref a), .val (.int 3), .val (.int ce2)] []))
              refine oT (fun _ u => XS.aloadN X16.here hx rfl (hb hby d6_10) rfl rfl u) ?_
              refine oT (fun _ u => XS.iloadN X16.here hx rfl (hb hby d6_11) rfl u) ?_
              obtain ⟨cq17, kq17, q17a, q17b, q17c⟩ := isOf hZ E16 HT.1
              obtain ⟨_, _, ⟨T17, L17, k17, n17⟩, -, X17, ⟨Lc17, hQ17, l17, y17, z17⟩, st17⟩ := X16.virtualBack hx (y := oM23) (z := oM23) hown (mvT hZ (ow60 hw)) (mvT hZ (ow61 hw)) (notFace_of_selects (args := #[]) (mvT hZ (ow63 hw))) (mvT hZ (ow63 hw)) (mvT hZ (ow62 hw)) (by decide) (backOf (W := 0) (rmAL l Z a0 hw [] a (3 : Int32) cs_ rf_ b kb (4 : Int32) [(.int (ce0.toInt8.toInt32)), (.int (ce1.toInt8.toInt32)), (.int (ce2.toInt8.toInt32)), (.int (ce3.toInt8.toInt32))] (ce3.toInt8.toInt32) h0 n0 O0 HS ⟨HT.1, HT.2.1, HT.2.2.1, HT.2.2.2.1⟩ ⟨by decide, by decide⟩ rfl) hZ (ow64 hw) (ow9 hw) (by decide) (by decide)) q17a q17c (g := (mkF m 12 #[.val (.ref a), .val (.int 3), .val (.int ce2)] [(.int 3), (.ref a)])) rfl (by rw [hml]; rfl) (Steps.refl _) (argsL := [(.int (3 : Int32))]) (rest := []) (lenOf pd_16 rfl) rfl (by show 2 * 0 + _ ≤ _; exact Nat.le_of_eq rfl) (hb hby d6_12) (fun _ _ => ⟨rfl, E16, (own_le rfl), (own_le rfl)⟩)
              dsimp only [Pt.U, Pt.locs, Pt.cells, Pt.slots] at X17 l17 y17 z17 st17 hQ17
              subst y17 z17
              obtain ⟨hv17, N17q, E17⟩ := hQ17
              rw [own_lat HE3 HT.2.2.2.2.2.2.2] at hv17
              subst hv17
              have N17 := own_fr l17 N16 N17q
              refine own_tr st17 ?_
              show oE _ _ _ _ (T17.setTop (mkF m 15 #[.val (.ref a), .val (.int 3), .val (.int ce2)] [(.int ce3)]))
              refine oT (fun _ u => XS.istoreN X17.here hx rfl (hb hby d6_15) rfl (l' := #[.val (.ref a), .val (.int (3 : Int32)), .val (.int ce3)]) rfl u) ?_
              refine oT (fun _ u => XS.iloadN X17.here hx rfl (hb hby d6_16) rfl u) ?_
              refine oT (fun _ u => XS.bipush X17.here hx rfl (hb hby d6_17) u) ?_
              by_cases hc19_18 : ce3 = (59 : Int32)
              · -- pc 19: ce3 = (59 : Int32)
                refine oT (fun _ u => XS.icmpYes X17.here hx rfl (pc0 := 19) (pc' := 29) rfl (hb hby d6_19) rfl (teq hc19_18).1 (by decide) (by decide) u) ?_
                show oE _ _ _ _ (T17.setTop (mkF m 29 #[.val (.ref a), .val (.int 3), .val (.int ce3)] []))
                have zf3 : own_f ce3 = 0 := own_f0 hc19_18
                refine oT (fun _ u => XS.iconst X17.here hx rfl (hb hby d6_29) u) ?_
                refine own_leave X17 (v := some (.int (0 : Int32))) (fun h => by rw [Bd.returns] at h; cases h) ?_ (by decide) (by decide) (fun fs hr => retN X17 hx (t := .boolean) Bd.returns (by simp) (hb hby d6_30) hr)
                show Q_rmFDL4 Z a cs_ rf_ b kb ce0 ce1 ce2 ce3 h0 n0 _ T17.heap _
                rw [E17]
                exact ⟨by simp [own_all4, nf0, nf1, nf2, zf3], N17, rfl⟩
              · -- pc 19: not ce3 = (59 : Int32)
                refine oT (fun _ u => XS.icmpNo X17.here hx rfl (hb hby d6_19) rfl (feq hc19_18).1 u) ?_
                show oE _ _ _ _ (T17.setTop (mkF m 22 #[.val (.ref a), .val (.int 3), .val (.int ce3)] []))
                refine oT (fun _ u => XS.iloadN X17.here hx rfl (hb hby d6_22) rfl u) ?_
                obtain ⟨_, _, ⟨T19, L19, k19, n19⟩, -, X19, ⟨Lc19, hQ19, l19, y19, z19⟩, st19⟩ := Jvm.LawKit.callS X17 hx (y := oM5) hown (mvT hZ (ow82 hw)) (mvT hZ (ow83 hw)) (mvT hZ (ow84 hw)) (mvT hZ (ow85 hw)) (by decide) (backOf (W := 0) (rmI1 l Z a0 hw [] ce3  h0 n0 O0 ) hZ (ow85 hw) (ow84 hw) (by decide) (by decide)) (g := (mkF m 23 #[.val (.ref a), .val (.int 3), .val (.int ce3)] [(.int ce3)])) rfl (by rw [hml]; rfl) (argsL := [(.int ce3)]) (rest := []) (lenOf pd_17 rfl) rfl (by show 2 * 0 + _ ≤ _; exact Nat.le_of_eq rfl) (hb hby d6_23) (fun _ _ => ⟨rfl, E17, (own_le rfl), (own_le rfl)⟩)
                dsimp only [Pt.U, Pt.locs, Pt.cells, Pt.slots] at X19 l19 y19 z19 st19 hQ19
                subst y19 z19
                obtain ⟨rfl, N19q, E19⟩ := hQ19
                have N19 := own_fr l19 N17 N19q
                refine oT st19 ?_
                show oE _ _ _ _ (T19.setTop (mkF m 26 #[.val (.ref a), .val (.int 3), .val (.int ce3)] [(.int (own_iso ce3))]))
                by_cases hc26_20 : (own_iso ce3) = (0 : Int32)
                · -- pc 26: (own_iso ce3) = (0 : Int32)
                  refine oT (fun _ u => XS.ifYes X19.here hx rfl (pc0 := 26) (pc' := 31) rfl (hb hby d6_26) rfl ((if0 _ _).trans (teq hc26_20).1) (by decide) (by decide) u) ?_
                  show oE _ _ _ _ (T19.setTop (mkF m 31 #[.val (.ref a), .val (.int 3), .val (.int ce3)] []))
                  have nf3 := own_f2 HE3 hc19_18 hc26_20
                  refine oT (fun _ u => XS.iinc X19.here hx rfl (hb hby d6_31) rfl (l' := #[.val (.ref a), .val (.int (4 : Int32)), .val (.int ce3)]) rfl u) ?_
                  show oE _ _ _ _ (T19.setTop (mkF m 34 #[.val (.ref a), .val (.int 4), .val (.int ce3)] []))
                  refine oT (fun _ u => XS.goto X19.here hx rfl (pc0 := 34) (pc' := 2) rfl (hb hby d6_34) (by decide) (by decide) u) ?_
                  refine oT (fun _ u => XS.iloadN X19.here hx rfl (hb hby d6_2) rfl u) ?_
                  refine oT (fun _ u => XS.aloadN X19.here hx rfl (hb hby d6_3) rfl rfl u) ?_
                  obtain ⟨cq21, kq21, q21a, q21b, q21c⟩ := isOf hZ E19 HT.1
                  obtain ⟨_, _, ⟨T21, L21, k21, n21⟩, -, X21, ⟨Lc21, hQ21, l21, y21, z21⟩, st21⟩ := X19.virtualBack hx (y := oM24) (z := oM24) hown (mvT hZ (ow36 hw)) (mvT hZ (ow37 hw)) (notFace_of_selects (args := #[]) (mvT hZ (ow39 hw))) (mvT hZ (ow39 hw)) (mvT hZ (ow38 hw)) (by decide) (backOf (W := 1) (rmLen0 l Z a0 hw [] a cs_ rf_ b kb (4 : Int32) [(.int (ce0.toInt8.toInt32)), (.int (ce1.toInt8.toInt32)), (.int (ce2.toInt8.toInt32)), (.int (ce3.toInt8.toInt32))] h0 n0 O0 HS ⟨HT.1, HT.2.1, HT.2.2.1, HT.2.2.2.1⟩) hZ (ow40 hw) (ow9 hw) (by decide) (by decide)) q21a q21c (g := (mkF m 4 #[.val (.ref a), .val (.int 4), .val (.int ce3)] [(.ref a), (.int 4)])) rfl (by rw [hml]; rfl) (Steps.refl _) (argsL := []) (rest := [(.int (4 : Int32))]) (lenOf pd_15 rfl) rfl (by show 2 * 0 + _ ≤ _; exact Nat.le_of_eq rfl) (hb hby d6_4) (fun _ _ => ⟨rfl, E19, (own_le rfl), (own_le rfl)⟩)
                  dsimp only [Pt.U, Pt.locs, Pt.cells, Pt.slots] at X21 l21 y21 z21 st21 hQ21
                  subst y21 z21
                  obtain ⟨hv21, N21q, E21⟩ := hQ21
                  rw [show ((4 : Int32) >>> ((0 : Int32) &&& 31)) = (4 : Int32) from by decide] at hv21
                  subst hv21
                  have N21 := own_fr l21 N19 N21q
                  refine own_tr st21 ?_
                  show oE _ _ _ _ (T21.setTop (mkF m 7 #[.val (.ref a), .val (.int 4), .val (.int ce3)] [(.int 4), (.int 4)]))
                  refine oT (fun _ u => XS.icmpYes X21.here hx rfl (pc0 := 7) (pc' := 37) rfl (hb hby d6_7) rfl (flt (by decide)).2.1 (by decide) (by decide) u) ?_
                  show oE _ _ _ _ (T21.setTop (mkF m 37 #[.val (.ref a), .val (.int 4), .val (.int ce3)] []))
                  refine oT (fun _ u => XS.iconst X21.here hx rfl (hb hby d6_37) u) ?_
                  refine own_leave X21 (v := some (.int (1 : Int32))) (fun h => by rw [Bd.returns] at h; cases h) ?_ (by decide) (by decide) (fun fs hr => retN X21 hx (t := .boolean) Bd.returns (by simp) (hb hby d6_38) hr)
                  show Q_rmFDL4 Z a cs_ rf_ b kb ce0 ce1 ce2 ce3 h0 n0 _ T21.heap _
                  rw [E21]
                  exact ⟨by simp [own_all4, nf0, nf1, nf2, nf3], N21, rfl⟩
                · -- pc 26: not (own_iso ce3) = (0 : Int32)
                  refine oT (fun _ u => XS.ifNo X19.here hx rfl (hb hby d6_26) rfl ((if0 _ _).trans (feq hc26_20).1) u) ?_
                  show oE _ _ _ _ (T19.setTop (mkF m 29 #[.val (.ref a), .val (.int 3), .val (.int ce3)] []))
                  have zf3 : own_f ce3 = 0 := own_f1 HE3 hc26_20
                  refine oT (fun _ u => XS.iconst X19.here hx rfl (hb hby d6_29) u) ?_
                  refine own_leave X19 (v := some (.int (0 : Int32))) (fun h => by rw [Bd.returns] at h; cases h) ?_ (by decide) (by decide) (fun fs hr => retN X19 hx (t := .boolean) Bd.returns (by simp) (hb hby d6_30) hr)
                  show Q_rmFDL4 Z a cs_ rf_ b kb ce0 ce1 ce2 ce3 h0 n0 _ T19.heap _
                  rw [E19]
                  exact ⟨by simp [own_all4, nf0, nf1, nf2, zf3], N19, rfl⟩
            · -- pc 26: not (own_iso ce2) = (0 : Int32)
              refine oT (fun _ u => XS.ifNo X14.here hx rfl (hb hby d6_26) rfl ((if0 _ _).trans (feq hc26_15).1) u) ?_
              show oE _ _ _ _ (T14.setTop (mkF m 29 #[.val (.ref a), .val (.int 2), .val (.int ce2)] []))
              have zf2 : own_f ce2 = 0 := own_f1 HE2 hc26_15
              refine oT (fun _ u => XS.iconst X14.here hx rfl (hb hby d6_29) u) ?_
              refine own_leave X14 (v := some (.int (0 : Int32))) (fun h => by rw [Bd.returns] at h; cases h) ?_ (by decide) (by decide) (fun fs hr => retN X14 hx (t := .boolean) Bd.returns (by simp) (hb hby d6_30) hr)
              show Q_rmFDL4 Z a cs_ rf_ b kb ce0 ce1 ce2 ce3 h0 n0 _ T14.heap _
              rw [E14]
              exact ⟨by simp [own_all4, nf0, nf1, zf2], N14, rfl⟩
        · -- pc 26: not (own_iso ce1) = (0 : Int32)
          refine oT (fun _ u => XS.ifNo X9.here hx rfl (hb hby d6_26) rfl ((if0 _ _).trans (feq hc26_10).1) u) ?_
          show oE _ _ _ _ (T9.setTop (mkF m 29 #[.val (.ref a), .val (.int 1), .val (.int ce1)] []))
          have zf1 : own_f ce1 = 0 := own_f1 HE1 hc26_10
          refine oT (fun _ u => XS.iconst X9.here hx rfl (hb hby d6_29) u) ?_
          refine own_leave X9 (v := some (.int (0 : Int32))) (fun h => by rw [Bd.returns] at h; cases h) ?_ (by decide) (by decide) (fun fs hr => retN X9 hx (t := .boolean) Bd.returns (by simp) (hb hby d6_30) hr)
          show Q_rmFDL4 Z a cs_ rf_ b kb ce0 ce1 ce2 ce3 h0 n0 _ T9.heap _
          rw [E9]
          exact ⟨by simp [own_all4, nf0, zf1], N9, rfl⟩
    · -- pc 26: not (own_iso ce0) = (0 : Int32)
      refine oT (fun _ u => XS.ifNo X4.here hx rfl (hb hby d6_26) rfl ((if0 _ _).trans (feq hc26_5).1) u) ?_
      show oE _ _ _ _ (T4.setTop (mkF m 29 #[.val (.ref a), .val (.int 0), .val (.int ce0)] []))
      have zf0 : own_f ce0 = 0 := own_f1 HE0 hc26_5
      refine oT (fun _ u => XS.iconst X4.here hx rfl (hb hby d6_29) u) ?_
      refine own_leave X4 (v := some (.int (0 : Int32))) (fun h => by rw [Bd.returns] at h; cases h) ?_ (by decide) (by decide) (fun fs hr => retN X4 hx (t := .boolean) Bd.returns (by simp) (hb hby d6_30) hr)
      show Q_rmFDL4 Z a cs_ rf_ b kb ce0 ce1 ce2 ce3 h0 n0 _ T4.heap _
      rw [E4]
      exact ⟨by simp [own_all4, zf0], N4, rfl⟩
theorem ef_rmFDU0 (m : MethodId) (a : Addr) : entryFrame m #[(.ref a)] 3 = mkF m 0 #[.val (.ref a), .unset, .unset] [] := by first | (simp [entryFrame, mkF, argsToLocals, Value.category]; done) | rfl | (rcases ref_cases hrf with rfl | ⟨q, rfl⟩ <;> rfl)
def Q_rmFDU0 (Z : State) (a : Addr) (cs_ : Int32) (rf_ : Value) (b : Addr) (kb : ClassId)  (h0 : Heap) (n0 : Nat) (v : Option Value) (h : Heap) (L : List Loc) : Prop := v = some (.int (own_all0 )) ∧ Fr n0 L ∧ h = h0
theorem rmFDU0 (l : Launch) (Z : State) (a0 : Array Value) (hw : ∀ d ∈ tables_1, d.before a0 Z = true) (ws : List Jvm.Cond) (a : Addr) (cs_ : Int32) (rf_ : Value) (b : Addr) (kb : ClassId)  (h0 : Heap) (n0 : Nat) (O0 : Old Z n0 h0) (HS : own_HS Z cs_ rf_) (HT : own_TU0 Z h0 a b kb ) :
    MetFree l oM25 (head1 (Jvm.Cond.code oM25 prog_16_method_16_code 3 (some .boolean) :: ws) ({ frames := 5, cells := 0, slots := 0, locals := 84 } : Room)) (fun aq_ U => aq_ = #[(.ref a)] ∧ Z.Warmed39 U.vm ∧ U.heap = h0) (fun _ _ _ _ _ => True) (fun _ U o U' => ∃ v L, o = .returned v ∧ Q_rmFDU0 Z a cs_ rf_ b kb h0 n0 v U'.heap L ∧ FrameEnd U o U' L 0 0) := by
  refine MetFree.of_bodySF (plainFor_of_name pn_6) hisR ?_
  intro p e s m args below meth c s₁ Bd hml0 hP hK
  obtain ⟨rfl, hZ, hh⟩ := hP
  have hx := Bd.exec
  have hby := Bd.bytes
  have hml : c.maxLocals = 3 := hml0
  have hown : s.vm.findClass "com/example/quittance/quittance/apply/CashApplication" = some m.cls := findClass_of_methodNamed Bd.named
  have hnm := (name_of_methodNamed Bd.named Bd.method).1
  have X0 : Stand p l e ({ frames := 5, cells := 0, slots := 0, locals := 84 } : Room) s m #[(.ref a)] below meth c s₁ [] 0 0 := Stand.of_body Bd
  have e0 : s₁.heap = h0 := by rw [← hh, Bd.state]; rfl
  have N0 := Fr.nil n0
  show oE p.tables e below (own_P s (Q_rmFDU0 Z a cs_ rf_ b kb h0 n0) 0 0) _
  refine own_cast (ef_rmFDU0 m a) ?_
  show oE _ _ _ _ (s₁.setTop (mkF m 0 #[.val (.ref a), .unset, .unset] []))
  refine oT (fun _ u => XS.iconst X0.here hx rfl (hb hby d6_0) u) ?_
  refine oT (fun _ u => XS.istoreN X0.here hx rfl (hb hby d6_1) rfl (l' := #[.val (.ref a), .val (.int (0 : Int32)), .unset]) rfl u) ?_
  refine oT (fun _ u => XS.iloadN X0.here hx rfl (hb hby d6_2) rfl u) ?_
  refine oT (fun _ u => XS.aloadN X0.here hx rfl (hb hby d6_3) rfl rfl u) ?_
  obtain ⟨cq1, kq1, q1a, q1b, q1c⟩ := isOf hZ e0 HT.1
  obtain ⟨_, _, ⟨T1, L1, k1, n1⟩, -, X1, ⟨Lc1, hQ1, l1, y1, z1⟩, st1⟩ := X0.virtualBack hx (y := oM24) (z := oM24) hown (mvT hZ (ow36 hw)) (mvT hZ (ow37 hw)) (notFace_of_selects (args := #[]) (mvT hZ (ow39 hw))) (mvT hZ (ow39 hw)) (mvT hZ (ow38 hw)) (by decide) (backOf (W := 1) (rmLen1 l Z a0 hw [] a cs_ rf_ b kb (0 : Int32) [] h0 n0 O0 HS ⟨HT.1, HT.2.1, HT.2.2.1, HT.2.2.2⟩) hZ (ow40 hw) (ow9 hw) (by decide) (by decide)) q1a q1c (g := (mkF m 4 #[.val (.ref a), .val (.int 0), .unset] [(.ref a), (.int 0)])) rfl (by rw [hml]; rfl) (Steps.refl _) (argsL := []) (rest := [(.int (0 : Int32))]) (lenOf pd_15 rfl) rfl (by show 2 * 0 + _ ≤ _; exact Nat.le_of_eq rfl) (hb hby d6_4) (fun _ _ => ⟨rfl, e0, (own_le rfl), (own_le rfl)⟩)
  dsimp only [Pt.U, Pt.locs, Pt.cells, Pt.slots] at X1 l1 y1 z1 st1 hQ1
  subst y1 z1
  obtain ⟨hv1, N1q, E1⟩ := hQ1
  rw [show ((0 : Int32) >>> ((1 : Int32) &&& 31)) = (0 : Int32) from by decide] at hv1
  subst hv1
  have N1 := own_fr l1 N0 N1q
  refine own_tr st1 ?_
  show oE _ _ _ _ (T1.setTop (mkF m 7 #[.val (.ref a), .val (.int 0), .unset] [(.int 0), (.int 0)]))
  refine oT (fun _ u => XS.icmpYes X1.here hx rfl (pc0 := 7) (pc' := 37) rfl (hb hby d6_7) rfl (flt (by decide)).2.1 (by decide) (by decide) u) ?_
  show oE _ _ _ _ (T1.setTop (mkF m 37 #[.val (.ref a), .val (.int 0), .unset] []))
  refine oT (fun _ u => XS.iconst X1.here hx rfl (hb hby d6_37) u) ?_
  refine own_leave X1 (v := some (.int (1 : Int32))) (fun h => by rw [Bd.returns] at h; cases h) ?_ (by decide) (by decide) (fun fs hr => retN X1 hx (t := .boolean) Bd.returns (by simp) (hb hby d6_38) hr)
  show Q_rmFDU0 Z a cs_ rf_ b kb h0 n0 _ T1.heap _
  rw [E1]
  exact ⟨by simp [own_all0], N1, rfl⟩
theorem ef_rmFDU1 (m : MethodId) (a : Addr) : entryFrame m #[(.ref a)] 3 = mkF m 0 #[.val (.ref a), .unset, .unset] [] := by first | (simp [entryFrame, mkF, argsToLocals, Value.category]; done) | rfl | (rcases ref_cases hrf with rfl | ⟨q, rfl⟩ <;> rfl)
def Q_rmFDU1 (Z : State) (a : Addr) (cs_ : Int32) (rf_ : Value) (b : Addr) (kb : ClassId) (ce0 : Int32) (h0 : Heap) (n0 : Nat) (v : Option Value) (h : Heap) (L : List Loc) : Prop := v = some (.int (own_all1 ce0)) ∧ Fr n0 L ∧ h = h0
theorem rmFDU1 (l : Launch) (Z : State) (a0 : Array Value) (hw : ∀ d ∈ tables_1, d.before a0 Z = true) (ws : List Jvm.Cond) (a : Addr) (cs_ : Int32) (rf_ : Value) (b : Addr) (kb : ClassId) (ce0 : Int32) (h0 : Heap) (n0 : Nat) (O0 : Old Z n0 h0) (HS : own_HS Z cs_ rf_) (HT : own_TU1 Z h0 a b kb ce0) (HE0 : own_Ch ce0) :
    MetFree l oM25 (head1 (Jvm.Cond.code oM25 prog_16_method_16_code 3 (some .boolean) :: ws) ({ frames := 5, cells := 0, slots := 0, locals := 84 } : Room)) (fun aq_ U => aq_ = #[(.ref a)] ∧ Z.Warmed39 U.vm ∧ U.heap = h0) (fun _ _ _ _ _ => True) (fun _ U o U' => ∃ v L, o = .returned v ∧ Q_rmFDU1 Z a cs_ rf_ b kb ce0 h0 n0 v U'.heap L ∧ FrameEnd U o U' L 0 0) := by
  refine MetFree.of_bodySF (plainFor_of_name pn_6) hisR ?_
  intro p e s m args below meth c s₁ Bd hml0 hP hK
  obtain ⟨rfl, hZ, hh⟩ := hP
  have hx := Bd.exec
  have hby := Bd.bytes
  have hml : c.maxLocals = 3 := hml0
  have hown : s.vm.findClass "com/example/quittance/quittance/apply/CashApplication" = some m.cls := findClass_of_methodNamed Bd.named
  have hnm := (name_of_methodNamed Bd.named Bd.method).1
  have X0 : Stand p l e ({ frames := 5, cells := 0, slots := 0, locals := 84 } : Room) s m #[(.ref a)] below meth c s₁ [] 0 0 := Stand.of_body Bd
  have e0 : s₁.heap = h0 := by rw [← hh, Bd.state]; rfl
  have N0 := Fr.nil n0
  show oE p.tables e below (own_P s (Q_rmFDU1 Z a cs_ rf_ b kb ce0 h0 n0) 0 0) _
  refine own_cast (ef_rmFDU1 m a) ?_
  show oE _ _ _ _ (s₁.setTop (mkF m 0 #[.val (.ref a), .unset, .unset] []))
  refine oT (fun _ u => XS.iconst X0.here hx rfl (hb hby d6_0) u) ?_
  refine oT (fun _ u => XS.istoreN X0.here hx rfl (hb hby d6_1) rfl (l' := #[.val (.ref a), .val (.int (0 : Int32)), .unset]) rfl u) ?_
  refine oT (fun _ u => XS.iloadN X0.here hx rfl (hb hby d6_2) rfl u) ?_
  refine oT (fun _ u => XS.aloadN X0.here hx rfl (hb hby d6_3) rfl rfl u) ?_
  obtain ⟨cq1, kq1, q1a, q1b, q1c⟩ := isOf hZ e0 HT.1
  obtain ⟨_, _, ⟨T1, L1, k1, n1⟩, -, X1, ⟨Lc1, hQ1, l1, y1, z1⟩, st1⟩ := X0.virtualBack hx (y := oM24) (z := oM24) hown (mvT hZ (ow36 hw)) (mvT hZ (ow37 hw)) (notFace_of_selects (args := #[]) (mvT hZ (ow39 hw))) (mvT hZ (ow39 hw)) (mvT hZ (ow38 hw)) (by decide) (backOf (W := 1) (rmLen1 l Z a0 hw [] a cs_ rf_ b kb (2 : Int32) [(.int ((ce0 >>> ((0 : Int32) &&& 31)).toInt8.toInt32)), (.int ((ce0 >>> ((8 : Int32) &&& 31)).toInt8.toInt32))] h0 n0 O0 HS ⟨HT.1, HT.2.1, HT.2.2.1, HT.2.2.2⟩) hZ (ow40 hw) (ow9 hw) (by decide) (by decide)) q1a q1c (g := (mkF m 4 #[.val (.ref a), .val (.int 0), .unset] [(.ref a), (.int 0)])) rfl (by rw [hml]; rfl) (Steps.refl _) (argsL := []) (rest := [(.int (0 : Int32))]) (lenOf pd_15 rfl) rfl (by show 2 * 0 + _ ≤ _; exact Nat.le_of_eq rfl) (hb hby d6_4) (fun _ _ => ⟨rfl, e0, (own_le rfl), (own_le rfl)⟩)
  dsimp only [Pt.U, Pt.locs, Pt.cells, Pt.slots] at X1 l1 y1 z1 st1 hQ1
  subst y1 z1
  obtain ⟨hv1, N1q, E1⟩ := hQ1
  rw [show ((2 : Int32) >>> ((1 : Int32) &&& 31)) = (1 : Int32) from by decide] at hv1
  subst hv1
  have N1 := own_fr l1 N0 N1q
  refine own_tr st1 ?_
  show oE _ _ _ _ (T1.setTop (mkF m 7 #[.val (.ref a), .val (.int 0), .unset] [(.int 1), (.int 0)]))
  refine oT (fun _ u => XS.icmpNo X1.here hx rfl (hb hby d6_7) rfl (tlt (by decide)).2.1 u) ?_
  show oE _ _ _ _ (T1.setTop (mkF m 10 #[.val (.ref a), .val (.int 0), .unset] []))
  refine oT (fun _ u => XS.aloadN X1.here hx rfl (hb hby d6_10) rfl rfl u) ?_
  refine oT (fun _ u => XS.iloadN X1.here hx rfl (hb hby d6_11) rfl u) ?_
  obtain ⟨cq2, kq2, q2a, q2b, q2c⟩ := isOf hZ E1 HT.1
  obtain ⟨_, _, ⟨T2, L2, k2, n2⟩, -, X2, ⟨Lc2, hQ2, l2, y2, z2⟩, st2⟩ := X1.virtualBack hx (y := oM23) (z := oM23) hown (mvT hZ (ow60 hw)) (mvT hZ (ow61 hw)) (notFace_of_selects (args := #[]) (mvT hZ (ow63 hw))) (mvT hZ (ow63 hw)) (mvT hZ (ow62 hw)) (by decide) (backOf (W := 0) (rmAU l Z a0 hw [] a (0 : Int32) cs_ rf_ b kb (2 : Int32) [(.int ((ce0 >>> ((0 : Int32) &&& 31)).toInt8.toInt32)), (.int ((ce0 >>> ((8 : Int32) &&& 31)).toInt8.toInt32))] ((ce0 >>> ((0 : Int32) &&& 31)).toInt8.toInt32) ((ce0 >>> ((8 : Int32) &&& 31)).toInt8.toInt32) h0 n0 O0 HS ⟨HT.1, HT.2.1, HT.2.2.1, HT.2.2.2⟩ ⟨by decide, by decide⟩ ⟨by decide, by decide⟩ ⟨by decide, by decide⟩ rfl rfl) hZ (ow64 hw) (ow9 hw) (by decide) (by decide)) q2a q2c (g := (mkF m 12 #[.val (.ref a), .val (.int 0), .unset] [(.int 0), (.ref a)])) rfl (by rw [hml]; rfl) (Steps.refl _) (argsL := [(.int (0 : Int32))]) (rest := []) (lenOf pd_16 rfl) rfl (by show 2 * 0 + _ ≤ _; exact Nat.le_of_eq rfl) (hb hby d6_12) (fun _ _ => ⟨rfl, E1, (own_le rfl), (own_le rfl)⟩)
  dsimp only [Pt.U, Pt.locs, Pt.cells, Pt.slots] at X2 l2 y2 z2 st2 hQ2
  subst y2 z2
  obtain ⟨hv2, N2q, E2⟩ := hQ2
  rw [own_utf HE0] at hv2
  subst hv2
  have N2 := own_fr l2 N1 N2q
  refine own_tr st2 ?_
  show oE _ _ _ _ (T2.setTop (mkF m 15 #[.val (.ref a), .val (.int 0), .unset] [(.int ce0)]))
  refine oT (fun _ u => XS.istoreN X2.here hx rfl (hb hby d6_15) rfl (l' := #[.val (.ref a), .val (.int (0 : Int32)), .val (.int ce0)]) rfl u) ?_
  refine oT (fun _ u => XS.iloadN X2.here hx rfl (hb hby d6_16) rfl u) ?_
  refine oT (fun _ u => XS.bipush X2.here hx rfl (hb hby d6_17) u) ?_
  by_cases hc19_3 : ce0 = (59 : Int32)
  · -- pc 19: ce0 = (59 : Int32)
    refine oT (fun _ u => XS.icmpYes X2.here hx rfl (pc0 := 19) (pc' := 29) rfl (hb hby d6_19) rfl (teq hc19_3).1 (by decide) (by decide) u) ?_
    show oE _ _ _ _ (T2.setTop (mkF m 29 #[.val (.ref a), .val (.int 0), .val (.int ce0)] []))
    have zf0 : own_f ce0 = 0 := own_f0 hc19_3
    refine oT (fun _ u => XS.iconst X2.here hx rfl (hb hby d6_29) u) ?_
    refine own_leave X2 (v := some (.int (0 : Int32))) (fun h => by rw [Bd.returns] at h; cases h) ?_ (by decide) (by decide) (fun fs hr => retN X2 hx (t := .boolean) Bd.returns (by simp) (hb hby d6_30) hr)
    show Q_rmFDU1 Z a cs_ rf_ b kb ce0 h0 n0 _ T2.heap _
    rw [E2]
    exact ⟨by simp [own_all1, zf0], N2, rfl⟩
  · -- pc 19: not ce0 = (59 : Int32)
    refine oT (fun _ u => XS.icmpNo X2.here hx rfl (hb hby d6_19) rfl (feq hc19_3).1 u) ?_
    show oE _ _ _ _ (T2.setTop (mkF m 22 #[.val (.ref a), .val (.int 0), .val (.int ce0)] []))
    refine oT (fun _ u => XS.iloadN X2.here hx rfl (hb hby d6_22) rfl u) ?_
    obtain ⟨_, _, ⟨T4, L4, k4, n4⟩, -, X4, ⟨Lc4, hQ4, l4, y4, z4⟩, st4⟩ := Jvm.LawKit.callS X2 hx (y := oM5) hown (mvT hZ (ow82 hw)) (mvT hZ (ow83 hw)) (mvT hZ (ow84 hw)) (mvT hZ (ow85 hw)) (by decide) (backOf (W := 0) (rmI1 l Z a0 hw [] ce0  h0 n0 O0 ) hZ (ow85 hw) (ow84 hw) (by decide) (by decide)) (g := (mkF m 23 #[.val (.ref a), .val (.int 0), .val (.int ce0)] [(.int ce0)])) rfl (by rw [hml]; rfl) (argsL := [(.int ce0)]) (rest := []) (lenOf pd_17 rfl) rfl (by show 2 * 0 + _ ≤ _; exact Nat.le_of_eq rfl) (hb hby d6_23) (fun _ _ => ⟨rfl, E2, (own_le rfl), (own_le rfl)⟩)
    dsimp only [Pt.U, Pt.locs, Pt.cells, Pt.slots] at X4 l4 y4 z4 st4 hQ4
    subst y4 z4
    obtain ⟨rfl, N4q, E4⟩ := hQ4
    have N4 := own_fr l4 N2 N4q
    refine oT st4 ?_
    show oE _ _ _ _ (T4.setTop (mkF m 26 #[.val (.ref a), .val (.int 0), .val (.int ce0)] [(.int (own_iso ce0))]))
    by_cases hc26_5 : (own_iso ce0) = (0 : Int32)
    · -- pc 26: (own_iso ce0) = (0 : Int32)
      refine oT (fun _ u => XS.ifYes X4.here hx rfl (pc0 := 26) (pc' := 31) rfl (hb hby d6_26) rfl ((if0 _ _).trans (teq hc26_5).1) (by decide) (by decide) u) ?_
      show oE _ _ _ _ (T4.setTop (mkF m 31 #[.val (.ref a), .val (.int 0), .val (.int ce0)] []))
      have nf0 := own_f2 HE0 hc19_3 hc26_5
      refine oT (fun _ u => XS.iinc X4.here hx rfl (hb hby d6_31) rfl (l' := #[.val (.ref a), .val (.int (1 : Int32)), .val (.int ce0)]) rfl u) ?_
      show oE _ _ _ _ (T4.setTop (mkF m 34 #[.val (.ref a), .val (.int 1), .val (.int ce0)] []))
      refine oT (fun _ u => XS.goto X4.here hx rfl (pc0 := 34) (pc' := 2) rfl (hb hby d6_34) (by decide) (by decide) u) ?_
      refine oT (fun _ u => XS.iloadN X4.here hx rfl (hb hby d6_2) rfl u) ?_
      refine oT (fun _ u => XS.aloadN X4.here hx rfl (hb hby d6_3) rfl rfl u) ?_
      obtain ⟨cq6, kq6, q6a, q6b, q6c⟩ := isOf hZ E4 HT.1
      obtain ⟨_, _, ⟨T6, L6, k6, n6⟩, -, X6, ⟨Lc6, hQ6, l6, y6, z6⟩, st6⟩ := X4.virtualBack hx (y := oM24) (z := oM24) hown (mvT hZ (ow36 hw)) (mvT hZ (ow37 hw)) (notFace_of_selects (args := #[]) (mvT hZ (ow39 hw))) (mvT hZ (ow39 hw)) (mvT hZ (ow38 hw)) (by decide) (backOf (W := 1) (rmLen1 l Z a0 hw [] a cs_ rf_ b kb (2 : Int32) [(.int ((ce0 >>> ((0 : Int32) &&& 31)).toInt8.toInt32)), (.int ((ce0 >>> ((8 : Int32) &&& 31)).toInt8.toInt32))] h0 n0 O0 HS ⟨HT.1, HT.2.1, HT.2.2.1, HT.2.2.2⟩) hZ (ow40 hw) (ow9 hw) (by decide) (by decide)) q6a q6c (g := (mkF m 4 #[.val (.ref a), .val (.int 1), .val (.int ce0)] [(.ref a), (.int 1)])) rfl (by rw [hml]; rfl) (Steps.refl _) (argsL := []) (rest := [(.int (1 : Int32))]) (lenOf pd_15 rfl) rfl (by show 2 * 0 + _ ≤ _; exact Nat.le_of_eq rfl) (hb hby d6_4) (fun _ _ => ⟨rfl, E4, (own_le rfl), (own_le rfl)⟩)
      dsimp only [Pt.U, Pt.locs, Pt.cells, Pt.slots] at X6 l6 y6 z6 st6 hQ6
      subst y6 z6
      obtain ⟨hv6, N6q, E6⟩ := hQ6
      rw [show ((2 : Int32) >>> ((1 : Int32) &&& 31)) = (1 : Int32) from by decide] at hv6
      subst hv6
      have N6 := own_fr l6 N4 N6q
      refine own_tr st6 ?_
      show oE _ _ _ _ (T6.setTop (mkF m 7 #[.val (.ref a), .val (.int 1), .val (.int ce0)] [(.int 1), (.int 1)]))
      refine oT (fun _ u => XS.icmpYes X6.here hx rfl (pc0 := 7) (pc' := 37) rfl (hb hby d6_7) rfl (flt (by decide)).2.1 (by decide) (by decide) u) ?_
      show oE _ _ _ _ (T6.setTop (mkF m 37 #[.val (.ref a), .val (.int 1), .val (.int ce0)] []))
      refine oT (fun _ u => XS.iconst X6.here hx rfl (hb hby d6_37) u) ?_
      refine own_leave X6 (v := some (.int (1 : Int32))) (fun h => by rw [Bd.returns] at h; cases h) ?_ (by decide) (by decide) (fun fs hr => retN X6 hx (t := .boolean) Bd.returns (by simp) (hb hby d6_38) hr)
      show Q_rmFDU1 Z a cs_ rf_ b kb ce0 h0 n0 _ T6.heap _
      rw [E6]
      exact ⟨by simp [own_all1, nf0], N6, rfl⟩
    · -- pc 26: not (own_iso ce0) = (0 : Int32)
      refine oT (fun _ u => XS.ifNo X4.here hx rfl (hb hby d6_26) rfl ((if0 _ _).trans (feq hc26_5).1) u) ?_
      show oE _ _ _ _ (T4.setTop (mkF m 29 #[.val (.ref a), .val (.int 0), .val (.int ce0)] []))
      have zf0 : own_f ce0 = 0 := own_f1 HE0 hc26_5
      refine oT (fun _ u => XS.iconst X4.here hx rfl (hb hby d6_29) u) ?_
      refine own_leave X4 (v := some (.int (0 : Int32))) (fun h => by rw [Bd.returns] at h; cases h) ?_ (by decide) (by decide) (fun fs hr => retN X4 hx (t := .boolean) Bd.returns (by simp) (hb hby d6_30) hr)
      show Q_rmFDU1 Z a cs_ rf_ b kb ce0 h0 n0 _ T4.heap _
      rw [E4]
      exact ⟨by simp [own_all1, zf0], N4, rfl⟩
theorem ef_rmFDU2 (m : MethodId) (a : Addr) : entryFrame m #[(.ref a)] 3 = mkF m 0 #[.val (.ref a), .unset, .unset] [] := by first | (simp [entryFrame, mkF, argsToLocals, Value.category]; done) | rfl | (rcases ref_cases hrf with rfl | ⟨q, rfl⟩ <;> rfl)
def Q_rmFDU2 (Z : State) (a : Addr) (cs_ : Int32) (rf_ : Value) (b : Addr) (kb : ClassId) (ce0 : Int32) (ce1 : Int32) (h0 : Heap) (n0 : Nat) (v : Option Value) (h : Heap) (L : List Loc) : Prop := v = some (.int (own_all2 ce0 ce1)) ∧ Fr n0 L ∧ h = h0
theorem rmFDU2 (l : Launch) (Z : State) (a0 : Array Value) (hw : ∀ d ∈ tables_1, d.before a0 Z = true) (ws : List Jvm.Cond) (a : Addr) (cs_ : Int32) (rf_ : Value) (b : Addr) (kb : ClassId) (ce0 : Int32) (ce1 : Int32) (h0 : Heap) (n0 : Nat) (O0 : Old Z n0 h0) (HS : own_HS Z cs_ rf_) (HT : own_TU2 Z h0 a b kb ce0 ce1) (HE0 : own_Ch ce0) (HE1 : own_Ch ce1) :
    MetFree l oM25 (head1 (Jvm.Cond.code oM25 prog_16_method_16_code 3 (some .boolean) :: ws) ({ frames := 5, cells := 0, slots := 0, locals := 84 } : Room)) (fun aq_ U => aq_ = #[(.ref a)] ∧ Z.Warmed39 U.vm ∧ U.heap = h0) (fun _ _ _ _ _ => True) (fun _ U o U' => ∃ v L, o = .returned v ∧ Q_rmFDU2 Z a cs_ rf_ b kb ce0 ce1 h0 n0 v U'.heap L ∧ FrameEnd U o U' L 0 0) := by
  refine MetFree.of_bodySF (plainFor_of_name pn_6) hisR ?_
  intro p e s m args below meth c s₁ Bd hml0 hP hK
  obtain ⟨rfl, hZ, hh⟩ := hP
  have hx := Bd.exec
  have hby := Bd.bytes
  have hml : c.maxLocals = 3 := hml0
  have hown : s.vm.findClass "com/example/quittance/quittance/apply/CashApplication" = some m.cls := findClass_of_methodNamed Bd.named
  have hnm := (name_of_methodNamed Bd.named Bd.method).1
  have X0 : Stand p l e ({ frames := 5, cells := 0, slots := 0, locals := 84 } : Room) s m #[(.ref a)] below meth c s₁ [] 0 0 := Stand.of_body Bd
  have e0 : s₁.heap = h0 := by rw [← hh, Bd.state]; rfl
  have N0 := Fr.nil n0
  show oE p.tables e below (own_P s (Q_rmFDU2 Z a cs_ rf_ b kb ce0 ce1 h0 n0) 0 0) _
  refine own_cast (ef_rmFDU2 m a) ?_
  show oE _ _ _ _ (s₁.setTop (mkF m 0 #[.val (.ref a), .unset, .unset] []))
  refine oT (fun _ u => XS.iconst X0.here hx rfl (hb hby d6_0) u) ?_
  refine oT (fun _ u => XS.istoreN X0.here hx rfl (hb hby d6_1) rfl (l' := #[.val (.ref a), .val (.int (0 : Int32)), .unset]) rfl u) ?_
  refine oT (fun _ u => XS.iloadN X0.here hx rfl (hb hby d6_2) rfl u) ?_
  refine oT (fun _ u => XS.aloadN X0.here hx rfl (hb hby d6_3) rfl rfl u) ?_
  obtain ⟨cq1, kq1, q1a, q1b, q1c⟩ := isOf hZ e0 HT.1
  obtain ⟨_, _, ⟨T1, L1, k1, n1⟩, -, X1, ⟨Lc1, hQ1, l1, y1, z1⟩, st1⟩ := X0.virtualBack hx (y := oM24) (z := oM24) hown (mvT hZ (ow36 hw)) (mvT hZ (ow37 hw)) (notFace_of_selects (args := #[]) (mvT hZ (ow39 hw))) (mvT hZ (ow39 hw)) (mvT hZ (ow38 hw)) (by decide) (backOf (W := 1) (rmLen1 l Z a0 hw [] a cs_ rf_ b kb (4 : Int32) [(.int ((ce0 >>> ((0 : Int32) &&& 31)).toInt8.toInt32)), (.int ((ce0 >>> ((8 : Int32) &&& 31)).toInt8.toInt32)), (.int ((ce1 >>> ((0 : Int32) &&& 31)).toInt8.toInt32)), (.int ((ce1 >>> ((8 : Int32) &&& 31)).toInt8.toInt32))] h0 n0 O0 HS ⟨HT.1, HT.2.1, HT.2.2.1, HT.2.2.2⟩) hZ (ow40 hw) (ow9 hw) (by decide) (by decide)) q1a q1c (g := (mkF m 4 #[.val (.ref a), .val (.int 0), .unset] [(.ref a), (.int 0)])) rfl (by rw [hml]; rfl) (Steps.refl _) (argsL := []) (rest := [(.int (0 : Int32))]) (lenOf pd_15 rfl) rfl (by show 2 * 0 + _ ≤ _; exact Nat.le_of_eq rfl) (hb hby d6_4) (fun _ _ => ⟨rfl, e0, (own_le rfl), (own_le rfl)⟩)
  dsimp only [Pt.U, Pt.locs, Pt.cells, Pt.slots] at X1 l1 y1 z1 st1 hQ1
  subst y1 z1
  obtain ⟨hv1, N1q, E1⟩ := hQ1
  rw [show ((4 : Int32) >>> ((1 : Int32) &&& 31)) = (2 : Int32) from by decide] at hv1
  subst hv1
  have N1 := own_fr l1 N0 N1q
  refine own_tr st1 ?_
  show oE _ _ _ _ (T1.setTop (mkF m 7 #[.val (.ref a), .val (.int 0), .unset] [(.int 2), (.int 0)]))
  refine oT (fun _ u => XS.icmpNo X1.here hx rfl (hb hby d6_7) rfl (tlt (by decide)).2.1 u) ?_
  show oE _ _ _ _ (T1.setTop (mkF m 10 #[.val (.ref a), .val (.int 0), .unset] []))
  refine oT (fun _ u => XS.aloadN X1.here hx rfl (hb hby d6_10) rfl rfl u) ?_
  refine oT (fun _ u => XS.iloadN X1.here hx rfl (hb hby d6_11) rfl u) ?_
  obtain ⟨cq2, kq2, q2a, q2b, q2c⟩ := isOf hZ E1 HT.1
  obtain ⟨_, _, ⟨T2, L2, k2, n2⟩, -, X2, ⟨Lc2, hQ2, l2, y2, z2⟩, st2⟩ := X1.virtualBack hx (y := oM23) (z := oM23) hown (mvT hZ (ow60 hw)) (mvT hZ (ow61 hw)) (notFace_of_selects (args := #[]) (mvT hZ (ow63 hw))) (mvT hZ (ow63 hw)) (mvT hZ (ow62 hw)) (by decide) (backOf (W := 0) (rmAU l Z a0 hw [] a (0 : Int32) cs_ rf_ b kb (4 : Int32) [(.int ((ce0 >>> ((0 : Int32) &&& 31)).toInt8.toInt32)), (.int ((ce0 >>> ((8 : Int32) &&& 31)).toInt8.toInt32)), (.int ((ce1 >>> ((0 : Int32) &&& 31)).toInt8.toInt32)), (.int ((ce1 >>> ((8 : Int32) &&& 31)).toInt8.toInt32))] ((ce0 >>> ((0 : Int32) &&& 31)).toInt8.toInt32) ((ce0 >>> ((8 : Int32) &&& 31)).toInt8.toInt32) h0 n0 O0 HS ⟨HT.1, HT.2.1, HT.2.2.1, HT.2.2.2⟩ ⟨by decide, by decide⟩ ⟨by decide, by decide⟩ ⟨by decide, by decide⟩ rfl rfl) hZ (ow64 hw) (ow9 hw) (by decide) (by decide)) q2a q2c (g := (mkF m 12 #[.val (.ref a), .val (.int 0), .unset] [(.int 0), (.ref a)])) rfl (by rw [hml]; rfl) (Steps.refl _) (argsL := [(.int (0 : Int32))]) (rest := []) (lenOf pd_16 rfl) rfl (by show 2 * 0 + _ ≤ _; exact Nat.le_of_eq rfl) (hb hby d6_12) (fun _ _ => ⟨rfl, E1, (own_le rfl), (own_le rfl)⟩)
  dsimp only [Pt.U, Pt.locs, Pt.cells, Pt.slots] at X2 l2 y2 z2 st2 hQ2
  subst y2 z2
  obtain ⟨hv2, N2q, E2⟩ := hQ2
  rw [own_utf HE0] at hv2
  subst hv2
  have N2 := own_fr l2 N1 N2q
  refine own_tr st2 ?_
  show oE _ _ _ _ (T2.setTop (mkF m 15 #[.val (.ref a), .val (.int 0), .unset] [(.int ce0)]))
  refine oT (fun _ u => XS.istoreN X2.here hx rfl (hb hby d6_15) rfl (l' := #[.val (.ref a), .val (.int (0 : Int32)), .val (.int ce0)]) rfl u) ?_
  refine oT (fun _ u => XS.iloadN X2.here hx rfl (hb hby d6_16) rfl u) ?_
  refine oT (fun _ u => XS.bipush X2.here hx rfl (hb hby d6_17) u) ?_
  by_cases hc19_3 : ce0 = (59 : Int32)
  · -- pc 19: ce0 = (59 : Int32)
    refine oT (fun _ u => XS.icmpYes X2.here hx rfl (pc0 := 19) (pc' := 29) rfl (hb hby d6_19) rfl (teq hc19_3).1 (by decide) (by decide) u) ?_
    show oE _ _ _ _ (T2.setTop (mkF m 29 #[.val (.ref a), .val (.int 0), .val (.int ce0)] []))
    have zf0 : own_f ce0 = 0 := own_f0 hc19_3
    refine oT (fun _ u => XS.iconst X2.here hx rfl (hb hby d6_29) u) ?_
    refine own_leave X2 (v := some (.int (0 : Int32))) (fun h => by rw [Bd.returns] at h; cases h) ?_ (by decide) (by decide) (fun fs hr => retN X2 hx (t := .boolean) Bd.returns (by simp) (hb hby d6_30) hr)
    show Q_rmFDU2 Z a cs_ rf_ b kb ce0 ce1 h0 n0 _ T2.heap _
    rw [E2]
    exact ⟨by simp [own_all2, zf0], N2, rfl⟩
  · -- pc 19: not ce0 = (59 : Int32)
    refine oT (fun _ u => XS.icmpNo X2.here hx rfl (hb hby d6_19) rfl (feq hc19_3).1 u) ?_
    show oE _ _ _ _ (T2.setTop (mkF m 22 #[.val (.ref a), .val (.int 0), .val (.int ce0)] []))
    refine oT (fun _ u => XS.iloadN X2.here hx rfl (hb hby d6_22) rfl u) ?_
    obtain ⟨_, _, ⟨T4, L4, k4, n4⟩, -, X4, ⟨Lc4, hQ4, l4, y4, z4⟩, st4⟩ := Jvm.LawKit.callS X2 hx (y := oM5) hown (mvT hZ (ow82 hw)) (mvT hZ (ow83 hw)) (mvT hZ (ow84 hw)) (mvT hZ (ow85 hw)) (by decide) (backOf (W := 0) (rmI1 l Z a0 hw [] ce0  h0 n0 O0 ) hZ (ow85 hw) (ow84 hw) (by decide) (by decide)) (g := (mkF m 23 #[.val (.ref a), .val (.int 0), .val (.int ce0)] [(.int ce0)])) rfl (by rw [hml]; rfl) (argsL := [(.int ce0)]) (rest := []) (lenOf pd_17 rfl) rfl (by show 2 * 0 + _ ≤ _; exact Nat.le_of_eq rfl) (hb hby d6_23) (fun _ _ => ⟨rfl, E2, (own_le rfl), (own_le rfl)⟩)
    dsimp only [Pt.U, Pt.locs, Pt.cells, Pt.slots] at X4 l4 y4 z4 st4 hQ4
    subst y4 z4
    obtain ⟨rfl, N4q, E4⟩ := hQ4
    have N4 := own_fr l4 N2 N4q
    refine oT st4 ?_
    show oE _ _ _ _ (T4.setTop (mkF m 26 #[.val (.ref a), .val (.int 0), .val (.int ce0)] [(.int (own_iso ce0))]))
    by_cases hc26_5 : (own_iso ce0) = (0 : Int32)
    · -- pc 26: (own_iso ce0) = (0 : Int32)
      refine oT (fun _ u => XS.ifYes X4.here hx rfl (pc0 := 26) (pc' := 31) rfl (hb hby d6_26) rfl ((if0 _ _).trans (teq hc26_5).1) (by decide) (by decide) u) ?_
      show oE _ _ _ _ (T4.setTop (mkF m 31 #[.val (.ref a), .val (.int 0), .val (.int ce0)] []))
      have nf0 := own_f2 HE0 hc19_3 hc26_5
      refine oT (fun _ u => XS.iinc X4.here hx rfl (hb hby d6_31) rfl (l' := #[.val (.ref a), .val (.int (1 : Int32)), .val (.int ce0)]) rfl u) ?_
      show oE _ _ _ _ (T4.setTop (mkF m 34 #[.val (.ref a), .val (.int 1), .val (.int ce0)] []))
      refine oT (fun _ u => XS.goto X4.here hx rfl (pc0 := 34) (pc' := 2) rfl (hb hby d6_34) (by decide) (by decide) u) ?_
      refine oT (fun _ u => XS.iloadN X4.here hx rfl (hb hby d6_2) rfl u) ?_
      refine oT (fun _ u => XS.aloadN X4.here hx rfl (hb hby d6_3) rfl rfl u) ?_
      obtain ⟨cq6, kq6, q6a, q6b, q6c⟩ := isOf hZ E4 HT.1
      obtain ⟨_, _, ⟨T6, L6, k6, n6⟩, -, X6, ⟨Lc6, hQ6, l6, y6, z6⟩, st6⟩ := X4.virtualBack hx (y := oM24) (z := oM24) hown (mvT hZ (ow36 hw)) (mvT hZ (ow37 hw)) (notFace_of_selects (args := #[]) (mvT hZ (ow39 hw))) (mvT hZ (ow39 hw)) (mvT hZ (ow38 hw)) (by decide) (backOf (W := 1) (rmLen1 l Z a0 hw [] a cs_ rf_ b kb (4 : Int32) [(.int ((ce0 >>> ((0 : Int32) &&& 31)).toInt8.toInt32)), (.int ((ce0 >>> ((8 : Int32) &&& 31)).toInt8.toInt32)), (.int ((ce1 >>> ((0 : Int32) &&& 31)).toInt8.toInt32)), (.int ((ce1 >>> ((8 : Int32) &&& 31)).toInt8.toInt32))] h0 n0 O0 HS ⟨HT.1, HT.2.1, HT.2.2.1, HT.2.2.2⟩) hZ (ow40 hw) (ow9 hw) (by decide) (by decide)) q6a q6c (g := (mkF m 4 #[.val (.ref a), .val (.int 1), .val (.int ce0)] [(.ref a), (.int 1)])) rfl (by rw [hml]; rfl) (Steps.refl _) (argsL := []) (rest := [(.int (1 : Int32))]) (lenOf pd_15 rfl) rfl (by show 2 * 0 + _ ≤ _; exact Nat.le_of_eq rfl) (hb hby d6_4) (fun _ _ => ⟨rfl, E4, (own_le rfl), (own_le rfl)⟩)
      dsimp only [Pt.U, Pt.locs, Pt.cells, Pt.slots] at X6 l6 y6 z6 st6 hQ6
      subst y6 z6
      obtain ⟨hv6, N6q, E6⟩ := hQ6
      rw [show ((4 : Int32) >>> ((1 : Int32) &&& 31)) = (2 : Int32) from by decide] at hv6
      subst hv6
      have N6 := own_fr l6 N4 N6q
      refine own_tr st6 ?_
      show oE _ _ _ _ (T6.setTop (mkF m 7 #[.val (.ref a), .val (.int 1), .val (.int ce0)] [(.int 2), (.int 1)]))
      refine oT (fun _ u => XS.icmpNo X6.here hx rfl (hb hby d6_7) rfl (tlt (by decide)).2.1 u) ?_
      show oE _ _ _ _ (T6.setTop (mkF m 10 #[.val (.ref a), .val (.int 1), .val (.int ce0)] []))
      refine oT (fun _ u => XS.aloadN X6.here hx rfl (hb hby d6_10) rfl rfl u) ?_
      refine oT (fun _ u => XS.iloadN X6.here hx rfl (hb hby d6_11) rfl u) ?_
      obtain ⟨cq7, kq7, q7a, q7b, q7c⟩ := isOf hZ E6 HT.1
      obtain ⟨_, _, ⟨T7, L7, k7, n7⟩, -, X7, ⟨Lc7, hQ7, l7, y7, z7⟩, st7⟩ := X6.virtualBack hx (y := oM23) (z := oM23) hown (mvT hZ (ow60 hw)) (mvT hZ (ow61 hw)) (notFace_of_selects (args := #[]) (mvT hZ (ow63 hw))) (mvT hZ (ow63 hw)) (mvT hZ (ow62 hw)) (by decide) (backOf (W := 0) (rmAU l Z a0 hw [] a (1 : Int32) cs_ rf_ b kb (4 : Int32) [(.int ((ce0 >>> ((0 : Int32) &&& 31)).toInt8.toInt32)), (.int ((ce0 >>> ((8 : Int32) &&& 31)).toInt8.toInt32)), (.int ((ce1 >>> ((0 : Int32) &&& 31)).toInt8.toInt32)), (.int ((ce1 >>> ((8 : Int32) &&& 31)).toInt8.toInt32))] ((ce1 >>> ((0 : Int32) &&& 31)).toInt8.toInt32) ((ce1 >>> ((8 : Int32) &&& 31)).toInt8.toInt32) h0 n0 O0 HS ⟨HT.1, HT.2.1, HT.2.2.1, HT.2.2.2⟩ ⟨by decide, by decide⟩ ⟨by decide, by decide⟩ ⟨by decide, by decide⟩ rfl rfl) hZ (ow64 hw) (ow9 hw) (by decide) (by decide)) q7a q7c (g := (mkF m 12 #[.val (.ref a), .val (.int 1), .val (.int ce0)] [(.int 1), (.ref a)])) rfl (by rw [hml]; rfl) (Steps.refl _) (argsL := [(.int (1 : Int32))]) (rest := []) (lenOf pd_16 rfl) rfl (by show 2 * 0 + _ ≤ _; exact Nat.le_of_eq rfl) (hb hby d6_12) (fun _ _ => ⟨rfl, E6, (own_le rfl), (own_le rfl)⟩)
      dsimp only [Pt.U, Pt.locs, Pt.cells, Pt.slots] at X7 l7 y7 z7 st7 hQ7
      subst y7 z7
      obtain ⟨hv7, N7q, E7⟩ := hQ7
      rw [own_utf HE1] at hv7
      subst hv7
      have N7 := own_fr l7 N6 N7q
      refine own_tr st7 ?_
      show oE _ _ _ _ (T7.setTop (mkF m 15 #[.val (.ref a), .val (.int 1), .val (.int ce0)] [(.int ce1)]))
      refine oT (fun _ u => XS.istoreN X7.here hx rfl (hb hby d6_15) rfl (l' := #[.val (.ref a), .val (.int (1 : Int32)), .val (.int ce1)]) rfl u) ?_
      refine oT (fun _ u => XS.iloadN X7.here hx rfl (hb hby d6_16) rfl u) ?_
      refine oT (fun _ u => XS.bipush X7.here hx rfl (hb hby d6_17) u) ?_
      by_cases hc19_8 : ce1 = (59 : Int32)
      · -- pc 19: ce1 = (59 : Int32)
        refine oT (fun _ u => XS.icmpYes X7.here hx rfl (pc0 := 19) (pc' := 29) rfl (hb hby d6_19) rfl (teq hc19_8).1 (by decide) (by decide) u) ?_
        show oE _ _ _ _ (T7.setTop (mkF m 29 #[.val (.ref a), .val (.int 1), .val (.int ce1)] []))
        have zf1 : own_f ce1 = 0 := own_f0 hc19_8
        refine oT (fun _ u => XS.iconst X7.here hx rfl (hb hby d6_29) u) ?_
        refine own_leave X7 (v := some (.int (0 : Int32))) (fun h => by rw [Bd.returns] at h; cases h) ?_ (by decide) (by decide) (fun fs hr => retN X7 hx (t := .boolean) Bd.returns (by simp) (hb hby d6_30) hr)
        show Q_rmFDU2 Z a cs_ rf_ b kb ce0 ce1 h0 n0 _ T7.heap _
        rw [E7]
        exact ⟨by simp [own_all2, nf0, zf1], N7, rfl⟩
      · -- pc 19: not ce1 = (59 : Int32)
        refine oT (fun _ u => XS.icmpNo X7.here hx rfl (hb hby d6_19) rfl (feq hc19_8).1 u) ?_
        show oE _ _ _ _ (T7.setTop (mkF m 22 #[.val (.ref a), .val (.int 1), .val (.int ce1)] []))
        refine oT (fun _ u => XS.iloadN X7.here hx rfl (hb hby d6_22) rfl u) ?_
        obtain ⟨_, _, ⟨T9, L9, k9, n9⟩, -, X9, ⟨Lc9, hQ9, l9, y9, z9⟩, st9⟩ := Jvm.LawKit.callS X7 hx (y := oM5) hown (mvT hZ (ow82 hw)) (mvT hZ (ow83 hw)) (mvT hZ (ow84 hw)) (mvT hZ (ow85 hw)) (by decide) (backOf (W := 0) (rmI1 l Z a0 hw [] ce1  h0 n0 O0 ) hZ (ow85 hw) (ow84 hw) (by decide) (by decide)) (g := (mkF m 23 #[.val (.ref a), .val (.int 1), .val (.int ce1)] [(.int ce1)])) rfl (by rw [hml]; rfl) (argsL := [(.int ce1)]) (rest := []) (lenOf pd_17 rfl) rfl (by show 2 * 0 + _ ≤ _; exact Nat.le_of_eq rfl) (hb hby d6_23) (fun _ _ => ⟨rfl, E7, (own_le rfl), (own_le rfl)⟩)
        dsimp only [Pt.U, Pt.locs, Pt.cells, Pt.slots] at X9 l9 y9 z9 st9 hQ9
        subst y9 z9
        obtain ⟨rfl, N9q, E9⟩ := hQ9
        have N9 := own_fr l9 N7 N9q
        refine oT st9 ?_
        show oE _ _ _ _ (T9.setTop (mkF m 26 #[.val (.ref a), .val (.int 1), .val (.int ce1)] [(.int (own_iso ce1))]))
        by_cases hc26_10 : (own_iso ce1) = (0 : Int32)
        · -- pc 26: (own_iso ce1) = (0 : Int32)
          refine oT (fun _ u => XS.ifYes X9.here hx rfl (pc0 := 26) (pc' := 31) rfl (hb hby d6_26) rfl ((if0 _ _).trans (teq hc26_10).1) (by decide) (by decide) u) ?_
          show oE _ _ _ _ (T9.setTop (mkF m 31 #[.val (.ref a), .val (.int 1), .val (.int ce1)] []))
          have nf1 := own_f2 HE1 hc19_8 hc26_10
          refine oT (fun _ u => XS.iinc X9.here hx rfl (hb hby d6_31) rfl (l' := #[.val (.ref a), .val (.int (2 : Int32)), .val (.int ce1)]) rfl u) ?_
          show oE _ _ _ _ (T9.setTop (mkF m 34 #[.val (.ref a), .val (.int 2), .val (.int ce1)] []))
          refine oT (fun _ u => XS.goto X9.here hx rfl (pc0 := 34) (pc' := 2) rfl (hb hby d6_34) (by decide) (by decide) u) ?_
          refine oT (fun _ u => XS.iloadN X9.here hx rfl (hb hby d6_2) rfl u) ?_
          refine oT (fun _ u => XS.aloadN X9.here hx rfl (hb hby d6_3) rfl rfl u) ?_
          obtain ⟨cq11, kq11, q11a, q11b, q11c⟩ := isOf hZ E9 HT.1
          obtain ⟨_, _, ⟨T11, L11, k11, n11⟩, -, X11, ⟨Lc11, hQ11, l11, y11, z11⟩, st11⟩ := X9.virtualBack hx (y := oM24) (z := oM24) hown (mvT hZ (ow36 hw)) (mvT hZ (ow37 hw)) (notFace_of_selects (args := #[]) (mvT hZ (ow39 hw))) (mvT hZ (ow39 hw)) (mvT hZ (ow38 hw)) (by decide) (backOf (W := 1) (rmLen1 l Z a0 hw [] a cs_ rf_ b kb (4 : Int32) [(.int ((ce0 >>> ((0 : Int32) &&& 31)).toInt8.toInt32)), (.int ((ce0 >>> ((8 : Int32) &&& 31)).toInt8.toInt32)), (.int ((ce1 >>> ((0 : Int32) &&& 31)).toInt8.toInt32)), (.int ((ce1 >>> ((8 : Int32) &&& 31)).toInt8.toInt32))] h0 n0 O0 HS ⟨HT.1, HT.2.1, HT.2.2.1, HT.2.2.2⟩) hZ (ow40 hw) (ow9 hw) (by decide) (by decide)) q11a q11c (g := (mkF m 4 #[.val (.ref a), .val (.int 2), .val (.int ce1)] [(.ref a), (.int 2)])) rfl (by rw [hml]; rfl) (Steps.refl _) (argsL := []) (rest := [(.int (2 : Int32))]) (lenOf pd_15 rfl) rfl (by show 2 * 0 + _ ≤ _; exact Nat.le_of_eq rfl) (hb hby d6_4) (fun _ _ => ⟨rfl, E9, (own_le rfl), (own_le rfl)⟩)
          dsimp only [Pt.U, Pt.locs, Pt.cells, Pt.slots] at X11 l11 y11 z11 st11 hQ11
          subst y11 z11
          obtain ⟨hv11, N11q, E11⟩ := hQ11
          rw [show ((4 : Int32) >>> ((1 : Int32) &&& 31)) = (2 : Int32) from by decide] at hv11
          subst hv11
          have N11 := own_fr l11 N9 N11q
          refine own_tr st11 ?_
          show oE _ _ _ _ (T11.setTop (mkF m 7 #[.val (.ref a), .val (.int 2), .val (.int ce1)] [(.int 2), (.int 2)]))
          refine oT (fun _ u => XS.icmpYes X11.here hx rfl (pc0 := 7) (pc' := 37) rfl (hb hby d6_7) rfl (flt (by decide)).2.1 (by decide) (by decide) u) ?_
          show oE _ _ _ _ (T11.setTop (mkF m 37 #[.val (.ref a), .val (.int 2), .val (.int ce1)] []))
          refine oT (fun _ u => XS.iconst X11.here hx rfl (hb hby d6_37) u) ?_
          refine own_leave X11 (v := some (.int (1 : Int32))) (fun h => by rw [Bd.returns] at h; cases h) ?_ (by decide) (by decide) (fun fs hr => retN X11 hx (t := .boolean) Bd.returns (by simp) (hb hby d6_38) hr)
          show Q_rmFDU2 Z a cs_ rf_ b kb ce0 ce1 h0 n0 _ T11.heap _
          rw [E11]
          exact ⟨by simp [own_all2, nf0, nf1], N11, rfl⟩
        · -- pc 26: not (own_iso ce1) = (0 : Int32)
          refine oT (fun _ u => XS.ifNo X9.here hx rfl (hb hby d6_26) rfl ((if0 _ _).trans (feq hc26_10).1) u) ?_
          show oE _ _ _ _ (T9.setTop (mkF m 29 #[.val (.ref a), .val (.int 1), .val (.int ce1)] []))
          have zf1 : own_f ce1 = 0 := own_f1 HE1 hc26_10
          refine oT (fun _ u => XS.iconst X9.here hx rfl (hb hby d6_29) u) ?_
          refine own_leave X9 (v := some (.int (0 : Int32))) (fun h => by rw [Bd.returns] at h; cases h) ?_ (by decide) (by decide) (fun fs hr => retN X9 hx (t := .boolean) Bd.returns (by simp) (hb hby d6_30) hr)
          show Q_rmFDU2 Z a cs_ rf_ b kb ce0 ce1 h0 n0 _ T9.heap _
          rw [E9]
          exact ⟨by simp [own_all2, nf0, zf1], N9, rfl⟩
    · -- pc 26: not (own_iso ce0) = (0 : Int32)
      refine oT (fun _ u => XS.ifNo X4.here hx rfl (hb hby d6_26) rfl ((if0 _ _).trans (feq hc26_5).1) u) ?_
      show oE _ _ _ _ (T4.setTop (mkF m 29 #[.val (.ref a), .val (.int 0), .val (.int ce0)] []))
      have zf0 : own_f ce0 = 0 := own_f1 HE0 hc26_5
      refine oT (fun _ u => XS.iconst X4.here hx rfl (hb hby d6_29) u) ?_
      refine own_leave X4 (v := some (.int (0 : Int32))) (fun h => by rw [Bd.returns] at h; cases h) ?_ (by decide) (by decide) (fun fs hr => retN X4 hx (t := .boolean) Bd.returns (by simp) (hb hby d6_30) hr)
      show Q_rmFDU2 Z a cs_ rf_ b kb ce0 ce1 h0 n0 _ T4.heap _
      rw [E4]
      exact ⟨by simp [own_all2, zf0], N4, rfl⟩
theorem ef_rmFDU3 (m : MethodId) (a : Addr) : entryFrame m #[(.ref a)] 3 = mkF m 0 #[.val (.ref a), .unset, .unset] [] := by first | (simp [entryFrame, mkF, argsToLocals, Value.category]; done) | rfl | (rcases ref_cases hrf with rfl | ⟨q, rfl⟩ <;> rfl)
def Q_rmFDU3 (Z : State) (a : Addr) (cs_ : Int32) (rf_ : Value) (b : Addr) (kb : ClassId) (ce0 : Int32) (ce1 : Int32) (ce2 : Int32) (h0 : Heap) (n0 : Nat) (v : Option Value) (h : Heap) (L : List Loc) : Prop := v = some (.int (own_all3 ce0 ce1 ce2)) ∧ Fr n0 L ∧ h = h0
theorem rmFDU3 (l : Launch) (Z : State) (a0 : Array Value) (hw : ∀ d ∈ tables_1, d.before a0 Z = true) (ws : List Jvm.Cond) (a : Addr) (cs_ : Int32) (rf_ : Value) (b : Addr) (kb : ClassId) (ce0 : Int32) (ce1 : Int32) (ce2 : Int32) (h0 : Heap) (n0 : Nat) (O0 : Old Z n0 h0) (HS : own_HS Z cs_ rf_) (HT : own_TU3 Z h0 a b kb ce0 ce1 ce2) (HE0 : own_Ch ce0) (HE1 : own_Ch ce1) (HE2 : own_Ch ce2) :
    MetFree l oM25 (head1 (Jvm.Cond.code oM25 prog_16_method_16_code 3 (some .boolean) :: ws) ({ frames := 5, cells := 0, slots := 0, locals := 84 } : Room)) (fun aq_ U => aq_ = #[(.ref a)] ∧ Z.Warmed39 U.vm ∧ U.heap = h0) (fun _ _ _ _ _ => True) (fun _ U o U' => ∃ v L, o = .returned v ∧ Q_rmFDU3 Z a cs_ rf_ b kb ce0 ce1 ce2 h0 n0 v U'.heap L ∧ FrameEnd U o U' L 0 0) := by
  refine MetFree.of_bodySF (plainFor_of_name pn_6) hisR ?_
  intro p e s m args below meth c s₁ Bd hml0 hP hK
  obtain ⟨rfl, hZ, hh⟩ := hP
  have hx := Bd.exec
  have hby := Bd.bytes
  have hml : c.maxLocals = 3 := hml0
  have hown : s.vm.findClass "com/example/quittance/quittance/apply/CashApplication" = some m.cls := findClass_of_methodNamed Bd.named
  have hnm := (name_of_methodNamed Bd.named Bd.method).1
  have X0 : Stand p l e ({ frames := 5, cells := 0, slots := 0, locals := 84 } : Room) s m #[(.ref a)] below meth c s₁ [] 0 0 := Stand.of_body Bd
  have e0 : s₁.heap = h0 := by rw [← hh, Bd.state]; rfl
  have N0 := Fr.nil n0
  show oE p.tables e below (own_P s (Q_rmFDU3 Z a cs_ rf_ b kb ce0 ce1 ce2 h0 n0) 0 0) _
  refine own_cast (ef_rmFDU3 m a) ?_
  show oE _ _ _ _ (s₁.setTop (mkF m 0 #[.val (.ref a), .unset, .unset] []))
  refine oT (fun _ u => XS.iconst X0.here hx rfl (hb hby d6_0) u) ?_
  refine oT (fun _ u => XS.istoreN X0.here hx rfl (hb hby d6_1) rfl (l' := #[.val (.ref a), .val (.int (0 : Int32)), .unset]) rfl u) ?_
  refine oT (fun _ u => XS.iloadN X0.here hx rfl (hb hby d6_2) rfl u) ?_
  refine oT (fun _ u => XS.aloadN X0.here hx rfl (hb hby d6_3) rfl rfl u) ?_
  obtain ⟨cq1, kq1, q1a, q1b, q1c⟩ := isOf hZ e0 HT.1
  obtain ⟨_, _, ⟨T1, L1, k1, n1⟩, -, X1, ⟨Lc1, hQ1, l1, y1, z1⟩, st1⟩ := X0.virtualBack hx (y := oM24) (z := oM24) hown (mvT hZ (ow36 hw)) (mvT hZ (ow37 hw)) (notFace_of_selects (args := #[]) (mvT hZ (ow39 hw))) (mvT hZ (ow39 hw)) (mvT hZ (ow38 hw)) (by decide) (backOf (W := 1) (rmLen1 l Z a0 hw [] a cs_ rf_ b kb (6 : Int32) [(.int ((ce0 >>> ((0 : Int32) &&& 31)).toInt8.toInt32)), (.int ((ce0 >>> ((8 : Int32) &&& 31)).toInt8.toInt32)), (.int ((ce1 >>> ((0 : Int32) &&& 31)).toInt8.toInt32)), (.int ((ce1 >>> ((8 : Int32) &&& 31)).toInt8.toInt32)), (.int ((ce2 >>> ((0 : Int32) &&& 31)).toInt8.toInt32)), (.int ((ce2 >>> ((8 : Int32) &&& 31)).toInt8.toInt32))] h0 n0 O0 HS ⟨HT.1, HT.2.1, HT.2.2.1, HT.2.2.2⟩) hZ (ow40 hw) (ow9 hw) (by decide) (by decide)) q1a q1c (g := (mkF m 4 #[.val (.ref a), .val (.int 0), .unset] [(.ref a), (.int 0)])) rfl (by rw [hml]; rfl) (Steps.refl _) (argsL := []) (rest := [(.int (0 : Int32))]) (lenOf pd_15 rfl) rfl (by show 2 * 0 + _ ≤ _; exact Nat.le_of_eq rfl) (hb hby d6_4) (fun _ _ => ⟨rfl, e0, (own_le rfl), (own_le rfl)⟩)
  dsimp only [Pt.U, Pt.locs, Pt.cells, Pt.slots] at X1 l1 y1 z1 st1 hQ1
  subst y1 z1
  obtain ⟨hv1, N1q, E1⟩ := hQ1
  rw [show ((6 : Int32) >>> ((1 : Int32) &&& 31)) = (3 : Int32) from by decide] at hv1
  subst hv1
  have N1 := own_fr l1 N0 N1q
  refine own_tr st1 ?_
  show oE _ _ _ _ (T1.setTop (mkF m 7 #[.val (.ref a), .val (.int 0), .unset] [(.int 3), (.int 0)]))
  refine oT (fun _ u => XS.icmpNo X1.here hx rfl (hb hby d6_7) rfl (tlt (by decide)).2.1 u) ?_
  show oE _ _ _ _ (T1.setTop (mkF m 10 #[.val (.ref a), .val (.int 0), .unset] []))
  refine oT (fun _ u => XS.aloadN X1.here hx rfl (hb hby d6_10) rfl rfl u) ?_
  refine oT (fun _ u => XS.iloadN X1.here hx rfl (hb hby d6_11) rfl u) ?_
  obtain ⟨cq2, kq2, q2a, q2b, q2c⟩ := isOf hZ E1 HT.1
  obtain ⟨_, _, ⟨T2, L2, k2, n2⟩, -, X2, ⟨Lc2, hQ2, l2, y2, z2⟩, st2⟩ := X1.virtualBack hx (y := oM23) (z := oM23) hown (mvT hZ (ow60 hw)) (mvT hZ (ow61 hw)) (notFace_of_selects (args := #[]) (mvT hZ (ow63 hw))) (mvT hZ (ow63 hw)) (mvT hZ (ow62 hw)) (by decide) (backOf (W := 0) (rmAU l Z a0 hw [] a (0 : Int32) cs_ rf_ b kb (6 : Int32) [(.int ((ce0 >>> ((0 : Int32) &&& 31)).toInt8.toInt32)), (.int ((ce0 >>> ((8 : Int32) &&& 31)).toInt8.toInt32)), (.int ((ce1 >>> ((0 : Int32) &&& 31)).toInt8.toInt32)), (.int ((ce1 >>> ((8 : Int32) &&& 31)).toInt8.toInt32)), (.int ((ce2 >>> ((0 : Int32) &&& 31)).toInt8.toInt32)), (.int ((ce2 >>> ((8 : Int32) &&& 31)).toInt8.toInt32))] ((ce0 >>> ((0 : Int32) &&& 31)).toInt8.toInt32) ((ce0 >>> ((8 : Int32) &&& 31)).toInt8.toInt32) h0 n0 O0 HS ⟨HT.1, HT.2.1, HT.2.2.1, HT.2.2.2⟩ ⟨by decide, by decide⟩ ⟨by decide, by decide⟩ ⟨by decide, by decide⟩ rfl rfl) hZ (ow64 hw) (ow9 hw) (by decide) (by decide)) q2a q2c (g := (mkF m 12 #[.val (.ref a), .val (.int 0), .unset] [(.int 0), (.ref a)])) rfl (by rw [hml]; rfl) (Steps.refl _) (argsL := [(.int (0 : Int32))]) (rest := []) (lenOf pd_16 rfl) rfl (by show 2 * 0 + _ ≤ _; exact Nat.le_of_eq rfl) (hb hby d6_12) (fun _ _ => ⟨rfl, E1, (own_le rfl), (own_le rfl)⟩)
  dsimp only [Pt.U, Pt.locs, Pt.cells, Pt.slots] at X2 l2 y2 z2 st2 hQ2
  subst y2 z2
  obtain ⟨hv2, N2q, E2⟩ := hQ2
  rw [own_utf HE0] at hv2
  subst hv2
  have N2 := own_fr l2 N1 N2q
  refine own_tr st2 ?_
  show oE _ _ _ _ (T2.setTop (mkF m 15 #[.val (.ref a), .val (.int 0), .unset] [(.int ce0)]))
  refine oT (fun _ u => XS.istoreN X2.here hx rfl (hb hby d6_15) rfl (l' := #[.val (.ref a), .val (.int (0 : Int32)), .val (.int ce0)]) rfl u) ?_
  refine oT (fun _ u => XS.iloadN X2.here hx rfl (hb hby d6_16) rfl u) ?_
  refine oT (fun _ u => XS.bipush X2.here hx rfl (hb hby d6_17) u) ?_
  by_cases hc19_3 : ce0 = (59 : Int32)
  · -- pc 19: ce0 = (59 : Int32)
    refine oT (fun _ u => XS.icmpYes X2.here hx rfl (pc0 := 19) (pc' := 29) rfl (hb hby d6_19) rfl (teq hc19_3).1 (by decide) (by decide) u) ?_
    show oE _ _ _ _ (T2.setTop (mkF m 29 #[.val (.ref a), .val (.int 0), .val (.int ce0)] []))
    have zf0 : own_f ce0 = 0 := own_f0 hc19_3
    refine oT (fun _ u => XS.iconst X2.here hx rfl (hb hby d6_29) u) ?_
    refine own_leave X2 (v := some (.int (0 : Int32))) (fun h => by rw [Bd.returns] at h; cases h) ?_ (by decide) (by decide) (fun fs hr => retN X2 hx (t := .boolean) Bd.returns (by simp) (hb hby d6_30) hr)
    show Q_rmFDU3 Z a cs_ rf_ b kb ce0 ce1 ce2 h0 n0 _ T2.heap _
    rw [E2]
    exact ⟨by simp [own_all3, zf0], N2, rfl⟩
  · -- pc 19: not ce0 = (59 : Int32)
    refine oT (fun _ u => XS.icmpNo X2.here hx rfl (hb hby d6_19) rfl (feq hc19_3).1 u) ?_
    show oE _ _ _ _ (T2.setTop (mkF m 22 #[.val (.ref a), .val (.int 0), .val (.int ce0)] []))
    refine oT (fun _ u => XS.iloadN X2.here hx rfl (hb hby d6_22) rfl u) ?_
    obtain ⟨_, _, ⟨T4, L4, k4, n4⟩, -, X4, ⟨Lc4, hQ4, l4, y4, z4⟩, st4⟩ := Jvm.LawKit.callS X2 hx (y := oM5) hown (mvT hZ (ow82 hw)) (mvT hZ (ow83 hw)) (mvT hZ (ow84 hw)) (mvT hZ (ow85 hw)) (by decide) (backOf (W := 0) (rmI1 l Z a0 hw [] ce0  h0 n0 O0 ) hZ (ow85 hw) (ow84 hw) (by decide) (by decide)) (g := (mkF m 23 #[.val (.ref a), .val (.int 0), .val (.int ce0)] [(.int ce0)])) rfl (by rw [hml]; rfl) (argsL := [(.int ce0)]) (rest := []) (lenOf pd_17 rfl) rfl (by show 2 * 0 + _ ≤ _; exact Nat.le_of_eq rfl) (hb hby d6_23) (fun _ _ => ⟨rfl, E2, (own_le rfl), (own_le rfl)⟩)
    dsimp only [Pt.U, Pt.locs, Pt.cells, Pt.slots] at X4 l4 y4 z4 st4 hQ4
    subst y4 z4
    obtain ⟨rfl, N4q, E4⟩ := hQ4
    have N4 := own_fr l4 N2 N4q
    refine oT st4 ?_
    show oE _ _ _ _ (T4.setTop (mkF m 26 #[.val (.ref a), .val (.int 0), .val (.int ce0)] [(.int (own_iso ce0))]))
    by_cases hc26_5 : (own_iso ce0) = (0 : Int32)
    · -- pc 26: (own_iso ce0) = (0 : Int32)
      refine oT (fun _ u => XS.ifYes X4.here hx rfl (pc0 := 26) (pc' := 31) rfl (hb hby d6_26) rfl ((if0 _ _).trans (teq hc26_5).1) (by decide) (by decide) u) ?_
      show oE _ _ _ _ (T4.setTop (mkF m 31 #[.val (.ref a), .val (.int 0), .val (.int ce0)] []))
      have nf0 := own_f2 HE0 hc19_3 hc26_5
      refine oT (fun _ u => XS.iinc X4.here hx rfl (hb hby d6_31) rfl (l' := #[.val (.ref a), .val (.int (1 : Int32)), .val (.int ce0)]) rfl u) ?_
      show oE _ _ _ _ (T4.setTop (mkF m 34 #[.val (.ref a), .val (.int 1), .val (.int ce0)] []))
      refine oT (fun _ u => XS.goto X4.here hx rfl (pc0 := 34) (pc' := 2) rfl (hb hby d6_34) (by decide) (by decide) u) ?_
      refine oT (fun _ u => XS.iloadN X4.here hx rfl (hb hby d6_2) rfl u) ?_
      refine oT (fun _ u => XS.aloadN X4.here hx rfl (hb hby d6_3) rfl rfl u) ?_
      obtain ⟨cq6, kq6, q6a, q6b, q6c⟩ := isOf hZ E4 HT.1
      obtain ⟨_, _, ⟨T6, L6, k6, n6⟩, -, X6, ⟨Lc6, hQ6, l6, y6, z6⟩, st6⟩ := X4.virtualBack hx (y := oM24) (z := oM24) hown (mvT hZ (ow36 hw)) (mvT hZ (ow37 hw)) (notFace_of_selects (args := #[]) (mvT hZ (ow39 hw))) (mvT hZ (ow39 hw)) (mvT hZ (ow38 hw)) (by decide) (backOf (W := 1) (rmLen1 l Z a0 hw [] a cs_ rf_ b kb (6 : Int32) [(.int ((ce0 >>> ((0 : Int32) &&& 31)).toInt8.toInt32)), (.int ((ce0 >>> ((8 : Int32) &&& 31)).toInt8.toInt32)), (.int ((ce1 >>> ((0 : Int32) &&& 31)).toInt8.toInt32)), (.int ((ce1 >>> ((8 : Int32) &&& 31)).toInt8.toInt32)), (.int ((ce2 >>> ((0 : Int32) &&& 31)).toInt8.toInt32)), (.int ((ce2 >>> ((8 : Int32) &&& 31)).toInt8.toInt32))] h0 n0 O0 HS ⟨HT.1, HT.2.1, HT.2.2.1, HT.2.2.2⟩) hZ (ow40 hw) (ow9 hw) (by decide) (by decide)) q6a q6c (g := (mkF m 4 #[.val (.ref a), .val (.int 1), .val (.int ce0)] [(.ref a), (.int 1)])) rfl (by rw [hml]; rfl) (Steps.refl _) (argsL := []) (rest := [(.int (1 : Int32))]) (lenOf pd_15 rfl) rfl (by show 2 * 0 + _ ≤ _; exact Nat.le_of_eq rfl) (hb hby d6_4) (fun _ _ => ⟨rfl, E4, (own_le rfl), (own_le rfl)⟩)
      dsimp only [Pt.U, Pt.locs, Pt.cells, Pt.slots] at X6 l6 y6 z6 st6 hQ6
      subst y6 z6
      obtain ⟨hv6, N6q, E6⟩ := hQ6
      rw [show ((6 : Int32) >>> ((1 : Int32) &&& 31)) = (3 : Int32) from by decide] at hv6
      subst hv6
      have N6 := own_fr l6 N4 N6q
      refine own_tr st6 ?_
      show oE _ _ _ _ (T6.setTop (mkF m 7 #[.val (.ref a), .val (.int 1), .val (.int ce0)] [(.int 3), (.int 1)]))
      refine oT (fun _ u => XS.icmpNo X6.here hx rfl (hb hby d6_7) rfl (tlt (by decide)).2.1 u) ?_
      show oE _ _ _ _ (T6.setTop (mkF m 10 #[.val (.ref a), .val (.int 1), .val (.int ce0)] []))
      refine oT (fun _ u => XS.aloadN X6.here hx rfl (hb hby d6_10) rfl rfl u) ?_
      refine oT (fun _ u => XS.iloadN X6.here hx rfl (hb hby d6_11) rfl u) ?_
      obtain ⟨cq7, kq7, q7a, q7b, q7c⟩ := isOf hZ E6 HT.1
      obtain ⟨_, _, ⟨T7, L7, k7, n7⟩, -, X7, ⟨Lc7, hQ7, l7, y7, z7⟩, st7⟩ := X6.virtualBack hx (y := oM23) (z := oM23) hown (mvT hZ (ow60 hw)) (mvT hZ (ow61 hw)) (notFace_of_selects (args := #[]) (mvT hZ (ow63 hw))) (mvT hZ (ow63 hw)) (mvT hZ (ow62 hw)) (by decide) (backOf (W := 0) (rmAU l Z a0 hw [] a (1 : Int32) cs_ rf_ b kb (6 : Int32) [(.int ((ce0 >>> ((0 : Int32) &&& 31)).toInt8.toInt32)), (.int ((ce0 >>> ((8 : Int32) &&& 31)).toInt8.toInt32)), (.int ((ce1 >>> ((0 : Int32) &&& 31)).toInt8.toInt32)), (.int ((ce1 >>> ((8 : Int32) &&& 31)).toInt8.toInt32)), (.int ((ce2 >>> ((0 : Int32) &&& 31)).toInt8.toInt32)), (.int ((ce2 >>> ((8 : Int32) &&& 31)).toInt8.toInt32))] ((ce1 >>> ((0 : Int32) &&& 31)).toInt8.toInt32) ((ce1 >>> ((8 : Int32) &&& 31)).toInt8.toInt32) h0 n0 O0 HS ⟨HT.1, HT.2.1, HT.2.2.1, HT.2.2.2⟩ ⟨by decide, by decide⟩ ⟨by decide, by decide⟩ ⟨by decide, by decide⟩ rfl rfl) hZ (ow64 hw) (ow9 hw) (by decide) (by decide)) q7a q7c (g := (mkF m 12 #[.val (.ref a), .val (.int 1), .val (.int ce0)] [(.int 1), (.ref a)])) rfl (by rw [hml]; rfl) (Steps.refl _) (argsL := [(.int (1 : Int32))]) (rest := []) (lenOf pd_16 rfl) rfl (by show 2 * 0 + _ ≤ _; exact Nat.le_of_eq rfl) (hb hby d6_12) (fun _ _ => ⟨rfl, E6, (own_le rfl), (own_le rfl)⟩)
      dsimp only [Pt.U, Pt.locs, Pt.cells, Pt.slots] at X7 l7 y7 z7 st7 hQ7
      subst y7 z7
      obtain ⟨hv7, N7q, E7⟩ := hQ7
      rw [own_utf HE1] at hv7
      subst hv7
      have N7 := own_fr l7 N6 N7q
      refine own_tr st7 ?_
      show oE _ _ _ _ (T7.setTop (mkF m 15 #[.val (.ref a), .val (.int 1), .val (.int ce0)] [(.int ce1)]))
      refine oT (fun _ u => XS.istoreN X7.here hx rfl (hb hby d6_15) rfl (l' := #[.val (.ref a), .val (.int (1 : Int32)), .val (.int ce1)]) rfl u) ?_
      refine oT (fun _ u => XS.iloadN X7.here hx rfl (hb hby d6_16) rfl u) ?_
      refine oT (fun _ u => XS.bipush X7.here hx rfl (hb hby d6_17) u) ?_
      by_cases hc19_8 : ce1 = (59 : Int32)
      · -- pc 19: ce1 = (59 : Int32)
        refine oT (fun _ u => XS.icmpYes X7.here hx rfl (pc0 := 19) (pc' := 29) rfl (hb hby d6_19) rfl (teq hc19_8).1 (by decide) (by decide) u) ?_
        show oE _ _ _ _ (T7.setTop (mkF m 29 #[.val (.ref a), .val (.int 1), .val (.int ce1)] []))
        have zf1 : own_f ce1 = 0 := own_f0 hc19_8
        refine oT (fun _ u => XS.iconst X7.here hx rfl (hb hby d6_29) u) ?_
        refine own_leave X7 (v := some (.int (0 : Int32))) (fun h => by rw [Bd.returns] at h; cases h) ?_ (by decide) (by decide) (fun fs hr => retN X7 hx (t := .boolean) Bd.returns (by simp) (hb hby d6_30) hr)
        show Q_rmFDU3 Z a cs_ rf_ b kb ce0 ce1 ce2 h0 n0 _ T7.heap _
        rw [E7]
        exact ⟨by simp [own_all3, nf0, zf1], N7, rfl⟩
      · -- pc 19: not ce1 = (59 : Int32)
        refine oT (fun _ u => XS.icmpNo X7.here hx rfl (hb hby d6_19) rfl (feq hc19_8).1 u) ?_
        show oE _ _ _ _ (T7.setTop (mkF m 22 #[.val (.ref a), .val (.int 1), .val (.int ce1)] []))
        refine oT (fun _ u => XS.iloadN X7.here hx rfl (hb hby d6_22) rfl u) ?_
        obtain ⟨_, _, ⟨T9, L9, k9, n9⟩, -, X9, ⟨Lc9, hQ9, l9, y9, z9⟩, st9⟩ := Jvm.LawKit.callS X7 hx (y := oM5) hown (mvT hZ (ow82 hw)) (mvT hZ (ow83 hw)) (mvT hZ (ow84 hw)) (mvT hZ (ow85 hw)) (by decide) (backOf (W := 0) (rmI1 l Z a0 hw [] ce1  h0 n0 O0 ) hZ (ow85 hw) (ow84 hw) (by decide) (by decide)) (g := (mkF m 23 #[.val (.ref a), .val (.int 1), .val (.int ce1)] [(.int ce1)])) rfl (by rw [hml]; rfl) (argsL := [(.int ce1)]) (rest := []) (lenOf pd_17 rfl) rfl (by show 2 * 0 + _ ≤ _; exact Nat.le_of_eq rfl) (hb hby d6_23) (fun _ _ => ⟨rfl, E7, (own_le rfl), (own_le rfl)⟩)
        dsimp only [Pt.U, Pt.locs, Pt.cells, Pt.slots] at X9 l9 y9 z9 st9 hQ9
        subst y9 z9
        obtain ⟨rfl, N9q, E9⟩ := hQ9
        have N9 := own_fr l9 N7 N9q
        refine oT st9 ?_
        show oE _ _ _ _ (T9.setTop (mkF m 26 #[.val (.ref a), .val (.int 1), .val (.int ce1)] [(.int (own_iso ce1))]))
        by_cases hc26_10 : (own_iso ce1) = (0 : Int32)
        · -- pc 26: (own_iso ce1) = (0 : Int32)
          refine oT (fun _ u => XS.ifYes X9.here hx rfl (pc0 := 26) (pc' := 31) rfl (hb hby d6_26) rfl ((if0 _ _).trans (teq hc26_10).1) (by decide) (by decide) u) ?_
          show oE _ _ _ _ (T9.setTop (mkF m 31 #[.val (.ref a), .val (.int 1), .val (.int ce1)] []))
          have nf1 := own_f2 HE1 hc19_8 hc26_10
          refine oT (fun _ u => XS.iinc X9.here hx rfl (hb hby d6_31) rfl (l' := #[.val (.ref a), .val (.int (2 : Int32)), .val (.int ce1)]) rfl u) ?_
          show oE _ _ _ _ (T9.setTop (mkF m 34 #[.val (.ref a), .val (.int 2), .val (.int ce1)] []))
          refine oT (fun _ u => XS.goto X9.here hx rfl (pc0 := 34) (pc' := 2) rfl (hb hby d6_34) (by decide) (by decide) u) ?_
          refine oT (fun _ u => XS.iloadN X9.here hx rfl (hb hby d6_2) rfl u) ?_
          refine oT (fun _ u => XS.aloadN X9.here hx rfl (hb hby d6_3) rfl rfl u) ?_
          obtain ⟨cq11, kq11, q11a, q11b, q11c⟩ := isOf hZ E9 HT.1
          obtain ⟨_, _, ⟨T11, L11, k11, n11⟩, -, X11, ⟨Lc11, hQ11, l11, y11, z11⟩, st11⟩ := X9.virtualBack hx (y := oM24) (z := oM24) hown (mvT hZ (ow36 hw)) (mvT hZ (ow37 hw)) (notFace_of_selects (args := #[]) (mvT hZ (ow39 hw))) (mvT hZ (ow39 hw)) (mvT hZ (ow38 hw)) (by decide) (backOf (W := 1) (rmLen1 l Z a0 hw [] a cs_ rf_ b kb (6 : Int32) [(.int ((ce0 >>> ((0 : Int32) &&& 31)).toInt8.toInt32)), (.int ((ce0 >>> ((8 : Int32) &&& 31)).toInt8.toInt32)), (.int ((ce1 >>> ((0 : Int32) &&& 31)).toInt8.toInt32)), (.int ((ce1 >>> ((8 : Int32) &&& 31)).toInt8.toInt32)), (.int ((ce2 >>> ((0 : Int32) &&& 31)).toInt8.toInt32)), (.int ((ce2 >>> ((8 : Int32) &&& 31)).toInt8.toInt32))] h0 n0 O0 HS ⟨HT.1, HT.2.1, HT.2.2.1, HT.2.2.2⟩) hZ (ow40 hw) (ow9 hw) (by decide) (by decide)) q11a q11c (g := (mkF m 4 #[.val (.ref a), .val (.int 2), .val (.int ce1)] [(.ref a), (.int 2)])) rfl (by rw [hml]; rfl) (Steps.refl _) (argsL := []) (rest := [(.int (2 : Int32))]) (lenOf pd_15 rfl) rfl (by show 2 * 0 + _ ≤ _; exact Nat.le_of_eq rfl) (hb hby d6_4) (fun _ _ => ⟨rfl, E9, (own_le rfl), (own_le rfl)⟩)
          dsimp only [Pt.U, Pt.locs, Pt.cells, Pt.slots] at X11 l11 y11 z11 st11 hQ11
          subst y11 z11
          obtain ⟨hv11, N11q, E11⟩ := hQ11
          rw [show ((6 : Int32) >>> ((1 : Int32) &&& 31)) = (3 : Int32) from by decide] at hv11
          subst hv11
          have N11 := own_fr l11 N9 N11q
          refine own_tr st11 ?_
          show oE _ _ _ _ (T11.setTop (mkF m 7 #[.val (.ref a), .val (.int 2), .val (.int ce1)] [(.int 3), (.int 2)]))
          refine oT (fun _ u => XS.icmpNo X11.here hx rfl (hb hby d6_7) rfl (tlt (by decide)).2.1 u) ?_
          show oE _ _ _ _ (T11.setTop (mkF m 10 #[.val (.ref a), .val (.int 2), .val (.int ce1)] []))
          refine oT (fun _ u => XS.aloadN X11.here hx rfl (hb hby d6_10) rfl rfl u) ?_
          refine oT (fun _ u => XS.iloadN X11.here hx rfl (hb hby d6_11) rfl u) ?_
          obtain ⟨cq12, kq12, q12a, q12b, q12c⟩ := isOf hZ E11 HT.1
          obtain ⟨_, _, ⟨T12, L12, k12, n12⟩, -, X12, ⟨Lc12, hQ12, l12, y12, z12⟩, st12⟩ := X11.virtualBack hx (y := oM23) (z := oM23) hown (mvT hZ (ow60 hw)) (mvT hZ (ow61 hw)) (notFace_of_selects (args := #[]) (mvT hZ (ow63 hw))) (mvT hZ (ow63 hw)) (mvT hZ (ow62 hw)) (by decide) (backOf (W := 0) (rmAU l Z a0 hw [] a (2 : Int32) cs_ rf_ b kb (6 : Int32) [(.int ((ce0 >>> ((0 : Int32) &&& 31)).toInt8.toInt32)), (.int ((ce0 >>> ((8 : Int32) &&& 31)).toInt8.toInt32)), (.int ((ce1 >>> ((0 : Int32) &&& 31)).toInt8.toInt32)), (.int ((ce1 >>> ((8 : Int32) &&& 31)).toInt8.toInt32)), (.int ((ce2 >>> ((0 : Int32) &&& 31)).toInt8.toInt32)), (.int ((ce2 >>> ((8 : Int32) &&& 31)).toInt8.toInt32))] ((ce2 >>> ((0 : Int32) &&& 31)).toInt8.toInt32) ((ce2 >>> ((8 : Int32) &&& 31)).toInt8.toInt32) h0 n0 O0 HS ⟨HT.1, HT.2.1, HT.2.2.1, HT.2.2.2⟩ ⟨by decide, by decide⟩ ⟨by decide, by decide⟩ ⟨by decide, by decide⟩ rfl rfl) hZ (ow64 hw) (ow9 hw) (by decide) (by decide)) q12a q12c (g := (mkF m 12 #[.val (.ref a), .val (.int 2), .val (.int ce1)] [(.int 2), (.ref a)])) rfl (by rw [hml]; rfl) (Steps.refl _) (argsL := [(.int (2 : Int32))]) (rest := []) (lenOf pd_16 rfl) rfl (by show 2 * 0 + _ ≤ _; exact Nat.le_of_eq rfl) (hb hby d6_12) (fun _ _ => ⟨rfl, E11, (own_le rfl), (own_le rfl)⟩)
          dsimp only [Pt.U, Pt.locs, Pt.cells, Pt.slots] at X12 l12 y12 z12 st12 hQ12
          subst y12 z12
          obtain ⟨hv12, N12q, E12⟩ := hQ12
          rw [own_utf HE2] at hv12
          subst hv12
          have N12 := own_fr l12 N11 N12q
          refine own_tr st12 ?_
          show oE _ _ _ _ (T12.setTop (mkF m 15 #[.val (.ref a), .val (.int 2), .val (.int ce1)] [(.int ce2)]))
          refine oT (fun _ u => XS.istoreN X12.here hx rfl (hb hby d6_15) rfl (l' := #[.val (.ref a), .val (.int (2 : Int32)), .val (.int ce2)]) rfl u) ?_
          refine oT (fun _ u => XS.iloadN X12.here hx rfl (hb hby d6_16) rfl u) ?_
          refine oT (fun _ u => XS.bipush X12.here hx rfl (hb hby d6_17) u) ?_
          by_cases hc19_13 : ce2 = (59 : Int32)
          · -- pc 19: ce2 = (59 : Int32)
            refine oT (fun _ u => XS.icmpYes X12.here hx rfl (pc0 := 19) (pc' := 29) rfl (hb hby d6_19) rfl (teq hc19_13).1 (by decide) (by decide) u) ?_
            show oE _ _ _ _ (T12.setTop (mkF m 29 #[.val (.ref a), .val (.int 2), .val (.int ce2)] []))
            have zf2 : own_f ce2 = 0 := own_f0 hc19_13
            refine oT (fun _ u => XS.iconst X12.here hx rfl (hb hby d6_29) u) ?_
            refine own_leave X12 (v := some (.int (0 : Int32))) (fun h => by rw [Bd.returns] at h; cases h) ?_ (by decide) (by decide) (fun fs hr => retN X12 hx (t := .boolean) Bd.returns (by simp) (hb hby d6_30) hr)
            show Q_rmFDU3 Z a cs_ rf_ b kb ce0 ce1 ce2 h0 n0 _ T12.heap _
            rw [E12]
            exact ⟨by simp [own_all3, nf0, nf1, zf2], N12, rfl⟩
          · -- pc 19: not ce2 = (59 : Int32)
            refine oT (fun _ u => XS.icmpNo X12.here hx rfl (hb hby d6_19) rfl (feq hc19_13).1 u) ?_
            show oE _ _ _ _ (T12.setTop (mkF m 22 #[.val (.ref a), .val (.int 2), .val (.int ce2)] []))
            refine oT (fun _ u => XS.iloadN X12.here hx rfl (hb hby d6_22) rfl u) ?_
            obtain ⟨_, _, ⟨T14, L14, k14, n14⟩, -, X14, ⟨Lc14, hQ14, l14, y14, z14⟩, st14⟩ := Jvm.LawKit.callS X12 hx (y := oM5) hown (mvT hZ (ow82 hw)) (mvT hZ (ow83 hw)) (mvT hZ (ow84 hw)) (mvT hZ (ow85 hw)) (by decide) (backOf (W := 0) (rmI1 l Z a0 hw [] ce2  h0 n0 O0 ) hZ (ow85 hw) (ow84 hw) (by decide) (by decide)) (g := (mkF m 23 #[.val (.ref a), .val (.int 2), .val (.int ce2)] [(.int ce2)])) rfl (by rw [hml]; rfl) (argsL := [(.int ce2)]) (rest := []) (lenOf pd_17 rfl) rfl (by show 2 * 0 + _ ≤ _; exact Nat.le_of_eq rfl) (hb hby d6_23) (fun _ _ => ⟨rfl, E12, (own_le rfl), (own_le rfl)⟩)
            dsimp only [Pt.U, Pt.locs, Pt.cells, Pt.slots] at X14 l14 y14 z14 st14 hQ14
            subst y14 z14
            obtain ⟨rfl, N14q, E14⟩ := hQ14
            have N14 := own_fr l14 N12 N14q
            refine oT st14 ?_
            show oE _ _ _ _ (T14.setTop (mkF m 26 #[.val (.ref a), .val (.int 2), .val (.int ce2)] [(.int (own_iso ce2))]))
            by_cases hc26_15 : (own_iso ce2) = (0 : Int32)
            · -- pc 26: (own_iso ce2) = (0 : Int32)
              refine oT (fun _ u => XS.ifYes X14.here hx rfl (pc0 := 26) (pc' := 31) rfl (hb hby d6_26) rfl ((if0 _ _).trans (teq hc26_15).1) (by decide) (by decide) u) ?_
              show oE _ _ _ _ (T14.setTop (mkF m 31 #[.val (.ref a), .val (.int 2), .val (.int ce2)] []))
              have nf2 := own_f2 HE2 hc19_13 hc26_15
              refine oT (fun _ u => XS.iinc X14.here hx rfl (hb hby d6_31) rfl (l' := #[.val (.ref a), .val (.int (3 : Int32)), .val (.int ce2)]) rfl u) ?_
              show oE _ _ _ _ (T14.setTop (mkF m 34 #[.val (.ref a), .val (.int 3), .val (.int ce2)] []))
              refine oT (fun _ u => XS.goto X14.here hx rfl (pc0 := 34) (pc' := 2) rfl (hb hby d6_34) (by decide) (by decide) u) ?_
              refine oT (fun _ u => XS.iloadN X14.here hx rfl (hb hby d6_2) rfl u) ?_
              refine oT (fun _ u => XS.aloadN X14.here hx rfl (hb hby d6_3) rfl rfl u) ?_
              obtain ⟨cq16, kq16, q16a, q16b, q16c⟩ := isOf hZ E14 HT.1
              obtain ⟨_, _, ⟨T16, L16, k16, n16⟩, -, X16, ⟨Lc16, hQ16, l16, y16, z16⟩, st16⟩ := X14.virtualBack hx (y := oM24) (z := oM24) hown (mvT hZ (ow36 hw)) (mvT hZ (ow37 hw)) (notFace_of_selects (args := #[]) (mvT hZ (ow39 hw))) (mvT hZ (ow39 hw)) (mvT hZ (ow38 hw)) (by decide) (backOf (W := 1) (rmLen1 l Z a0 hw [] a cs_ rf_ b kb (6 : Int32) [(.int ((ce0 >>> ((0 : Int32) &&& 31)).toInt8.toInt32)), (.int ((ce0 >>> ((8 : Int32) &&& 31)).toInt8.toInt32)), (.int ((ce1 >>> ((0 : Int32) &&& 31)).toInt8.toInt32)), (.int ((ce1 >>> ((8 : Int32) &&& 31)).toInt8.toInt32)), (.int ((ce2 >>> ((0 : Int32) &&& 31)).toInt8.toInt32)), (.int ((ce2 >>> ((8 : Int32) &&& 31)).toInt8.toInt32))] h0 n0 O0 HS ⟨HT.1, HT.2.1, HT.2.2.1, HT.2.2.2⟩) hZ (ow40 hw) (ow9 hw) (by decide) (by decide)) q16a q16c (g := (mkF m 4 #[.val (.ref a), .val (.int 3), .val (.int ce2)] [(.ref a), (.int 3)])) rfl (by rw [hml]; rfl) (Steps.refl _) (argsL := []) (rest := [(.int (3 : Int32))]) (lenOf pd_15 rfl) rfl (by show 2 * 0 + _ ≤ _; exact Nat.le_of_eq rfl) (hb hby d6_4) (fun _ _ => ⟨rfl, E14, (own_le rfl), (own_le rfl)⟩)
              dsimp only [Pt.U, Pt.locs, Pt.cells, Pt.slots] at X16 l16 y16 z16 st16 hQ16
              subst y16 z16
              obtain ⟨hv16, N16q, E16⟩ := hQ16
              rw [show ((6 : Int32) >>> ((1 : Int32) &&& 31)) = (3 : Int32) from by decide] at hv16
              subst hv16
              have N16 := own_fr l16 N14 N16q
              refine own_tr st16 ?_
              show oE _ _ _ _ (T16.setTop (mkF m 7 #[.val (.ref a), .val (.int 3), .val (.int ce2)] [(.int 3), (.int 3)]))
              refine oT (fun _ u => XS.icmpYes X16.here hx rfl (pc0 := 7) (pc' := 37) rfl (hb hby d6_7) rfl (flt (by decide)).2.1 (by decide) (by decide) u) ?_
              show oE _ _ _ _ (T16.setTop (mkF m 37 #[.val (.ref a), .val (.int 3), .val (.int ce2)] []))
              refine oT (fun _ u => XS.iconst X16.here hx rfl (hb hby d6_37) u) ?_
              refine own_leave X16 (v := some (.int (1 : Int32))) (fun h => by rw [Bd.returns] at h; cases h) ?_ (by decide) (by decide) (fun fs hr => retN X16 hx (t := .boolean) Bd.returns (by simp) (hb hby d6_38) hr)
              show Q_rmFDU3 Z a cs_ rf_ b kb ce0 ce1 ce2 h0 n0 _ T16.heap _
              rw [E16]
              exact ⟨by simp [own_all3, nf0, nf1, nf2], N16, rfl⟩
            · -- pc 26: not (own_iso ce2) = (0 : Int32)
              refine oT (fun _ u => XS.ifNo X14.here hx rfl (hb hby d6_26) rfl ((if0 _ _).trans (feq hc26_15).1) u) ?_
              show oE _ _ _ _ (T14.setTop (mkF m 29 #[.val (.ref a), .val (.int 2), .val (.int ce2)] []))
              have zf2 : own_f ce2 = 0 := own_f1 HE2 hc26_15
              refine oT (fun _ u => XS.iconst X14.here hx rfl (hb hby d6_29) u) ?_
              refine own_leave X14 (v := some (.int (0 : Int32))) (fun h => by rw [Bd.returns] at h; cases h) ?_ (by decide) (by decide) (fun fs hr => retN X14 hx (t := .boolean) Bd.returns (by simp) (hb hby d6_30) hr)
              show Q_rmFDU3 Z a cs_ rf_ b kb ce0 ce1 ce2 h0 n0 _ T14.heap _
              rw [E14]
              exact ⟨by simp [own_all3, nf0, nf1, zf2], N14, rfl⟩
        · -- pc 26: not (own_iso ce1) = (0 : Int32)
          refine oT (fun _ u => XS.ifNo X9.here hx rfl (hb hby d6_26) rfl ((if0 _ _).trans (feq hc26_10).1) u) ?_
          show oE _ _ _ _ (T9.setTop (mkF m 29 #[.val (.ref a), .val (.int 1), .val (.int ce1)] []))
          have zf1 : own_f ce1 = 0 := own_f1 HE1 hc26_10
          refine oT (fun _ u => XS.iconst X9.here hx rfl (hb hby d6_29) u) ?_
          refine own_leave X9 (v := some (.int (0 : Int32))) (fun h => by rw [Bd.returns] at h; cases h) ?_ (by decide) (by decide) (fun fs hr => retN X9 hx (t := .boolean) Bd.returns (by simp) (hb hby d6_30) hr)
          show Q_rmFDU3 Z a cs_ rf_ b kb ce0 ce1 ce2 h0 n0 _ T9.heap _
          rw [E9]
          exact ⟨by simp [own_all3, nf0, zf1], N9, rfl⟩
    · -- pc 26: not (own_iso ce0) = (0 : Int32)
      refine oT (fun _ u => XS.ifNo X4.here hx rfl (hb hby d6_26) rfl ((if0 _ _).trans (feq hc26_5).1) u) ?_
      show oE _ _ _ _ (T4.setTop (mkF m 29 #[.val (.ref a), .val (.int 0), .val (.int ce0)] []))
      have zf0 : own_f ce0 = 0 := own_f1 HE0 hc26_5
      refine oT (fun _ u => XS.iconst X4.here hx rfl (hb hby d6_29) u) ?_
      refine own_leave X4 (v := some (.int (0 : Int32))) (fun h => by rw [Bd.returns] at h; cases h) ?_ (by decide) (by decide) (fun fs hr => retN X4 hx (t := .boolean) Bd.returns (by simp) (hb hby d6_30) hr)
      show Q_rmFDU3 Z a cs_ rf_ b kb ce0 ce1 ce2 h0 n0 _ T4.heap _
      rw [E4]
      exact ⟨by simp [own_all3, zf0], N4, rfl⟩
theorem ef_rmFDU4 (m : MethodId) (a : Addr) : entryFrame m #[(.ref a)] 3 = mkF m 0 #[.val (.ref a), .unset, .unset] [] := by first | (simp [entryFrame, mkF, argsToLocals, Value.category]; done) | rfl | (rcases ref_cases hrf with rfl | ⟨q, rfl⟩ <;> rfl)
def Q_rmFDU4 (Z : State) (a : Addr) (cs_ : Int32) (rf_ : Value) (b : Addr) (kb : ClassId) (ce0 : Int32) (ce1 : Int32) (ce2 : Int32) (ce3 : Int32) (h0 : Heap) (n0 : Nat) (v : Option Value) (h : Heap) (L : List Loc) : Prop := v = some (.int (own_all4 ce0 ce1 ce2 ce3)) ∧ Fr n0 L ∧ h = h0
theorem rmFDU4 (l : Launch) (Z : State) (a0 : Array Value) (hw : ∀ d ∈ tables_1, d.before a0 Z = true) (ws : List Jvm.Cond) (a : Addr) (cs_ : Int32) (rf_ : Value) (b : Addr) (kb : ClassId) (ce0 : Int32) (ce1 : Int32) (ce2 : Int32) (ce3 : Int32) (h0 : Heap) (n0 : Nat) (O0 : Old Z n0 h0) (HS : own_HS Z cs_ rf_) (HT : own_TU4 Z h0 a b kb ce0 ce1 ce2 ce3) (HE0 : own_Ch ce0) (HE1 : own_Ch ce1) (HE2 : own_Ch ce2) (HE3 : own_Ch ce3) :
    MetFree l oM25 (head1 (Jvm.Cond.code oM25 prog_16_method_16_code 3 (some .boolean) :: ws) ({ frames := 5, cells := 0, slots := 0, locals := 84 } : Room)) (fun aq_ U => aq_ = #[(.ref a)] ∧ Z.Warmed39 U.vm ∧ U.heap = h0) (fun _ _ _ _ _ => True) (fun _ U o U' => ∃ v L, o = .returned v ∧ Q_rmFDU4 Z a cs_ rf_ b kb ce0 ce1 ce2 ce3 h0 n0 v U'.heap L ∧ FrameEnd U o U' L 0 0) := by
  refine MetFree.of_bodySF (plainFor_of_name pn_6) hisR ?_
  intro p e s m args below meth c s₁ Bd hml0 hP hK
  obtain ⟨rfl, hZ, hh⟩ := hP
  have hx := Bd.exec
  have hby := Bd.bytes
  have hml : c.maxLocals = 3 := hml0
  have hown : s.vm.findClass "com/example/quittance/quittance/apply/CashApplication" = some m.cls := findClass_of_methodNamed Bd.named
  have hnm := (name_of_methodNamed Bd.named Bd.method).1
  have X0 : Stand p l e ({ frames := 5, cells := 0, slots := 0, locals := 84 } : Room) s m #[(.ref a)] below meth c s₁ [] 0 0 := Stand.of_body Bd
  have e0 : s₁.heap = h0 := by rw [← hh, Bd.state]; rfl
  have N0 := Fr.nil n0
  show oE p.tables e below (own_P s (Q_rmFDU4 Z a cs_ rf_ b kb ce0 ce1 ce2 ce3 h0 n0) 0 0) _
  refine own_cast (ef_rmFDU4 m a) ?_
  show oE _ _ _ _ (s₁.setTop (mkF m 0 #[.val (.ref a), .unset, .unset] []))
  refine oT (fun _ u => XS.iconst X0.here hx rfl (hb hby d6_0) u) ?_
  refine oT (fun _ u => XS.istoreN X0.here hx rfl (hb hby d6_1) rfl (l' := #[.val (.ref a), .val (.int (0 : Int32)), .unset]) rfl u) ?_
  refine oT (fun _ u => XS.iloadN X0.here hx rfl (hb hby d6_2) rfl u) ?_
  refine oT (fun _ u => XS.aloadN X0.here hx rfl (hb hby d6_3) rfl rfl u) ?_
  obtain ⟨cq1, kq1, q1a, q1b, q1c⟩ := isOf hZ e0 HT.1
  obtain ⟨_, _, ⟨T1, L1, k1, n1⟩, -, X1, ⟨Lc1, hQ1, l1, y1, z1⟩, st1⟩ := X0.virtualBack hx (y := oM24) (z := oM24) hown (mvT hZ (ow36 hw)) (mvT hZ (ow37 hw)) (notFace_of_selects (args := #[]) (mvT hZ (ow39 hw))) (mvT hZ (ow39 hw)) (mvT hZ (ow38 hw)) (by decide) (backOf (W := 1) (rmLen1 l Z a0 hw [] a cs_ rf_ b kb (8 : Int32) [(.int ((ce0 >>> ((0 : Int32) &&& 31)).toInt8.toInt32)), (.int ((ce0 >>> ((8 : Int32) &&& 31)).toInt8.toInt32)), (.int ((ce1 >>> ((0 : Int32) &&& 31)).toInt8.toInt32)), (.int ((ce1 >>> ((8 : Int32) &&& 31)).toInt8.toInt32)), (.int ((ce2 >>> ((0 : Int32) &&& 31)).toInt8.toInt32)), (.int ((ce2 >>> ((8 : Int32) &&& 31)).toInt8.toInt32)), (.int ((ce3 >>> ((0 : Int32) &&& 31)).toInt8.toInt32)), (.int ((ce3 >>> ((8 : Int32) &&& 31)).toInt8.toInt32))] h0 n0 O0 HS ⟨HT.1, HT.2.1, HT.2.2.1, HT.2.2.2⟩) hZ (ow40 hw) (ow9 hw) (by decide) (by decide)) q1a q1c (g := (mkF m 4 #[.val (.ref a), .val (.int 0), .unset] [(.ref a), (.int 0)])) rfl (by rw [hml]; rfl) (Steps.refl _) (argsL := []) (rest := [(.int (0 : Int32))]) (lenOf pd_15 rfl) rfl (by show 2 * 0 + _ ≤ _; exact Nat.le_of_eq rfl) (hb hby d6_4) (fun _ _ => ⟨rfl, e0, (own_le rfl), (own_le rfl)⟩)
  dsimp only [Pt.U, Pt.locs, Pt.cells, Pt.slots] at X1 l1 y1 z1 st1 hQ1
  subst y1 z1
  obtain ⟨hv1, N1q, E1⟩ := hQ1
  rw [show ((8 : Int32) >>> ((1 : Int32) &&& 31)) = (4 : Int32) from by decide] at hv1
  subst hv1
  have N1 := own_fr l1 N0 N1q
  refine own_tr st1 ?_
  show oE _ _ _ _ (T1.setTop (mkF m 7 #[.val (.ref a), .val (.int 0), .unset] [(.int 4), (.int 0)]))
  refine oT (fun _ u => XS.icmpNo X1.here hx rfl (hb hby d6_7) rfl (tlt (by decide)).2.1 u) ?_
  show oE _ _ _ _ (T1.setTop (mkF m 10 #[.val (.ref a), .val (.int 0), .unset] []))
  refine oT (fun _ u => XS.aloadN X1.here hx rfl (hb hby d6_10) rfl rfl u) ?_
  refine oT (fun _ u => XS.iloadN X1.here hx rfl (hb hby d6_11) rfl u) ?_
  obtain ⟨cq2, kq2, q2a, q2b, q2c⟩ := isOf hZ E1 HT.1
  obtain ⟨_, _, ⟨T2, L2, k2, n2⟩, -, X2, ⟨Lc2, hQ2, l2, y2, z2⟩, st2⟩ := X1.virtualBack hx (y := oM23) (z := oM23) hown (mvT hZ (ow60 hw)) (mvT hZ (ow61 hw)) (notFace_of_selects (args := #[]) (mvT hZ (ow63 hw))) (mvT hZ (ow63 hw)) (mvT hZ (ow62 hw)) (by decide) (backOf (W := 0) (rmAU l Z a0 hw [] a (0 : Int32) cs_ rf_ b kb (8 : Int32) [(.int ((ce0 >>> ((0 : Int32) &&& 31)).toInt8.toInt32)), (.int ((ce0 >>> ((8 : Int32) &&& 31)).toInt8.toInt32)), (.int ((ce1 >>> ((0 : Int32) &&& 31)).toInt8.toInt32)), (.int ((ce1 >>> ((8 : Int32) &&& 31)).toInt8.toInt32)), (.int ((ce2 >>> ((0 : Int32) &&& 31)).toInt8.toInt32)), (.int ((ce2 >>> ((8 : Int32) &&& 31)).toInt8.toInt32)), (.int ((ce3 >>> ((0 : Int32) &&& 31)).toInt8.toInt32)), (.int ((ce3 >>> ((8 : Int32) &&& 31)).toInt8.toInt32))] ((ce0 >>> ((0 : Int32) &&& 31)).toInt8.toInt32) ((ce0 >>> ((8 : Int32) &&& 31)).toInt8.toInt32) h0 n0 O0 HS ⟨HT.1, HT.2.1, HT.2.2.1, HT.2.2.2⟩ ⟨by decide, by decide⟩ ⟨by decide, by decide⟩ ⟨by decide, by decide⟩ rfl rfl) hZ (ow64 hw) (ow9 hw) (by decide) (by decide)) q2a q2c (g := (mkF m 12 #[.val (.ref a), .val (.int 0), .unset] [(.int 0), (.ref a)])) rfl (by rw [hml]; rfl) (Steps.refl _) (argsL := [(.int (0 : Int32))]) (rest := []) (lenOf pd_16 rfl) rfl (by show 2 * 0 + _ ≤ _; exact Nat.le_of_eq rfl) (hb hby d6_12) (fun _ _ => ⟨rfl, E1, (own_le rfl), (own_le rfl)⟩)
  dsimp only [Pt.U, Pt.locs, Pt.cells, Pt.slots] at X2 l2 y2 z2 st2 hQ2
  subst y2 z2
  obtain ⟨hv2, N2q, E2⟩ := hQ2
  rw [own_utf HE0] at hv2
  subst hv2
  have N2 := own_fr l2 N1 N2q
  refine own_tr st2 ?_
  show oE _ _ _ _ (T2.setTop (mkF m 15 #[.val (.ref a), .val (.int 0), .unset] [(.int ce0)]))
  refine oT (fun _ u => XS.istoreN X2.here hx rfl (hb hby d6_15) rfl (l' := #[.val (.ref a), .val (.int (0 : Int32)), .val (.int ce0)]) rfl u) ?_
  refine oT (fun _ u => XS.iloadN X2.here hx rfl (hb hby d6_16) rfl u) ?_
  refine oT (fun _ u => XS.bipush X2.here hx rfl (hb hby d6_17) u) ?_
  by_cases hc19_3 : ce0 = (59 : Int32)
  · -- pc 19: ce0 = (59 : Int32)
    refine oT (fun _ u => XS.icmpYes X2.here hx rfl (pc0 := 19) (pc' := 29) rfl (hb hby d6_19) rfl (teq hc19_3).1 (by decide) (by decide) u) ?_
    show oE _ _ _ _ (T2.setTop (mkF m 29 #[.val (.ref a), .val (.int 0), .val (.int ce0)] []))
    have zf0 : own_f ce0 = 0 := own_f0 hc19_3
    refine oT (fun _ u => XS.iconst X2.here hx rfl (hb hby d6_29) u) ?_
    refine own_leave X2 (v := some (.int (0 : Int32))) (fun h => by rw [Bd.returns] at h; cases h) ?_ (by decide) (by decide) (fun fs hr => retN X2 hx (t := .boolean) Bd.returns (by simp) (hb hby d6_30) hr)
    show Q_rmFDU4 Z a cs_ rf_ b kb ce0 ce1 ce2 ce3 h0 n0 _ T2.heap _
    rw [E2]
    exact ⟨by simp [own_all4, zf0], N2, rfl⟩
  · -- pc 19: not ce0 = (59 : Int32)
    refine oT (fun _ u => XS.icmpNo X2.here hx rfl (hb hby d6_19) rfl (feq hc19_3).1 u) ?_
    show oE _ _ _ _ (T2.setTop (mkF m 22 #[.val (.ref a), .val (.int 0), .val (.int ce0)] []))
    refine oT (fun _ u => XS.iloadN X2.here hx rfl (hb hby d6_22) rfl u) ?_
    obtain ⟨_, _, ⟨T4, L4, k4, n4⟩, -, X4, ⟨Lc4, hQ4, l4, y4, z4⟩, st4⟩ := Jvm.LawKit.callS X2 hx (y := oM5) hown (mvT hZ (ow82 hw)) (mvT hZ (ow83 hw)) (mvT hZ (ow84 hw)) (mvT hZ (ow85 hw)) (by decide) (backOf (W := 0) (rmI1 l Z a0 hw [] ce0  h0 n0 O0 ) hZ (ow85 hw) (ow84 hw) (by decide) (by decide)) (g := (mkF m 23 #[.val (.ref a), .val (.int 0), .val (.int ce0)] [(.int ce0)])) rfl (by rw [hml]; rfl) (argsL := [(.int ce0)]) (rest := []) (lenOf pd_17 rfl) rfl (by show 2 * 0 + _ ≤ _; exact Nat.le_of_eq rfl) (hb hby d6_23) (fun _ _ => ⟨rfl, E2, (own_le rfl), (own_le rfl)⟩)
    dsimp only [Pt.U, Pt.locs, Pt.cells, Pt.slots] at X4 l4 y4 z4 st4 hQ4
    subst y4 z4
    obtain ⟨rfl, N4q, E4⟩ := hQ4
    have N4 := own_fr l4 N2 N4q
    refine oT st4 ?_
    show oE _ _ _ _ (T4.setTop (mkF m 26 #[.val (.ref a), .val (.int 0), .val (.int ce0)] [(.int (own_iso ce0))]))
    by_cases hc26_5 : (own_iso ce0) = (0 : Int32)
    · -- pc 26: (own_iso ce0) = (0 : Int32)
      refine oT (fun _ u => XS.ifYes X4.here hx rfl (pc0 := 26) (pc' := 31) rfl (hb hby d6_26) rfl ((if0 _ _).trans (teq hc26_5).1) (by decide) (by decide) u) ?_
      show oE _ _ _ _ (T4.setTop (mkF m 31 #[.val (.ref a), .val (.int 0), .val (.int ce0)] []))
      have nf0 := own_f2 HE0 hc19_3 hc26_5
      refine oT (fun _ u => XS.iinc X4.here hx rfl (hb hby d6_31) rfl (l' := #[.val (.ref a), .val (.int (1 : Int32)), .val (.int ce0)]) rfl u) ?_
      show oE _ _ _ _ (T4.setTop (mkF m 34 #[.val (.ref a), .val (.int 1), .val (.int ce0)] []))
      refine oT (fun _ u => XS.goto X4.here hx rfl (pc0 := 34) (pc' := 2) rfl (hb hby d6_34) (by decide) (by decide) u) ?_
      refine oT (fun _ u => XS.iloadN X4.here hx rfl (hb hby d6_2) rfl u) ?_
      refine oT (fun _ u => XS.aloadN X4.here hx rfl (hb hby d6_3) rfl rfl u) ?_
      obtain ⟨cq6, kq6, q6a, q6b, q6c⟩ := isOf hZ E4 HT.1
      obtain ⟨_, _, ⟨T6, L6, k6, n6⟩, -, X6, ⟨Lc6, hQ6, l6, y6, z6⟩, st6⟩ := X4.virtualBack hx (y := oM24) (z := oM24) hown (mvT hZ (ow36 hw)) (mvT hZ (ow37 hw)) (notFace_of_selects (args := #[]) (mvT hZ (ow39 hw))) (mvT hZ (ow39 hw)) (mvT hZ (ow38 hw)) (by decide) (backOf (W := 1) (rmLen1 l Z a0 hw [] a cs_ rf_ b kb (8 : Int32) [(.int ((ce0 >>> ((0 : Int32) &&& 31)).toInt8.toInt32)), (.int ((ce0 >>> ((8 : Int32) &&& 31)).toInt8.toInt32)), (.int ((ce1 >>> ((0 : Int32) &&& 31)).toInt8.toInt32)), (.int ((ce1 >>> ((8 : Int32) &&& 31)).toInt8.toInt32)), (.int ((ce2 >>> ((0 : Int32) &&& 31)).toInt8.toInt32)), (.int ((ce2 >>> ((8 : Int32) &&& 31)).toInt8.toInt32)), (.int ((ce3 >>> ((0 : Int32) &&& 31)).toInt8.toInt32)), (.int ((ce3 >>> ((8 : Int32) &&& 31)).toInt8.toInt32))] h0 n0 O0 HS ⟨HT.1, HT.2.1, HT.2.2.1, HT.2.2.2⟩) hZ (ow40 hw) (ow9 hw) (by decide) (by decide)) q6a q6c (g := (mkF m 4 #[.val (.ref a), .val (.int 1), .val (.int ce0)] [(.ref a), (.int 1)])) rfl (by rw [hml]; rfl) (Steps.refl _) (argsL := []) (rest := [(.int (1 : Int32))]) (lenOf pd_15 rfl) rfl (by show 2 * 0 + _ ≤ _; exact Nat.le_of_eq rfl) (hb hby d6_4) (fun _ _ => ⟨rfl, E4, (own_le rfl), (own_le rfl)⟩)
      dsimp only [Pt.U, Pt.locs, Pt.cells, Pt.slots] at X6 l6 y6 z6 st6 hQ6
      subst y6 z6
      obtain ⟨hv6, N6q, E6⟩ := hQ6
      rw [show ((8 : Int32) >>> ((1 : Int32) &&& 31)) = (4 : Int32) from by decide] at hv6
      subst hv6
      have N6 := own_fr l6 N4 N6q
      refine own_tr st6 ?_
      show oE _ _ _ _ (T6.setTop (mkF m 7 #[.val (.ref a), .val (.int 1), .val (.int ce0)] [(.int 4), (.int 1)]))
      refine oT (fun _ u => XS.icmpNo X6.here hx rfl (hb hby d6_7) rfl (tlt (by decide)).2.1 u) ?_
      show oE _ _ _ _ (T6.setTop (mkF m 10 #[.val (.ref a), .val (.int 1), .val (.int ce0)] []))
      refine oT (fun _ u => XS.aloadN X6.here hx rfl (hb hby d6_10) rfl rfl u) ?_
      refine oT (fun _ u => XS.iloadN X6.here hx rfl (hb hby d6_11) rfl u) ?_
      obtain ⟨cq7, kq7, q7a, q7b, q7c⟩ := isOf hZ E6 HT.1
      obtain ⟨_, _, ⟨T7, L7, k7, n7⟩, -, X7, ⟨Lc7, hQ7, l7, y7, z7⟩, st7⟩ := X6.virtualBack hx (y := oM23) (z := oM23) hown (mvT hZ (ow60 hw)) (mvT hZ (ow61 hw)) (notFace_of_selects (args := #[]) (mvT hZ (ow63 hw))) (mvT hZ (ow63 hw)) (mvT hZ (ow62 hw)) (by decide) (backOf (W := 0) (rmAU l Z a0 hw [] a (1 : Int32) cs_ rf_ b kb (8 : Int32) [(.int ((ce0 >>> ((0 : Int32) &&& 31)).toInt8.toInt32)), (.int ((ce0 >>> ((8 : Int32) &&& 31)).toInt8.toInt32)), (.int ((ce1 >>> ((0 : Int32) &&& 31)).toInt8.toInt32)), (.int ((ce1 >>> ((8 : Int32) &&& 31)).toInt8.toInt32)), (.int ((ce2 >>> ((0 : Int32) &&& 31)).toInt8.toInt32)), (.int ((ce2 >>> ((8 : Int32) &&& 31)).toInt8.toInt32)), (.int ((ce3 >>> ((0 : Int32) &&& 31)).toInt8.toInt32)), (.int ((ce3 >>> ((8 : Int32) &&& 31)).toInt8.toInt32))] ((ce1 >>> ((0 : Int32) &&& 31)).toInt8.toInt32) ((ce1 >>> ((8 : Int32) &&& 31)).toInt8.toInt32) h0 n0 O0 HS ⟨HT.1, HT.2.1, HT.2.2.1, HT.2.2.2⟩ ⟨by decide, by decide⟩ ⟨by decide, by decide⟩ ⟨by decide, by decide⟩ rfl rfl) hZ (ow64 hw) (ow9 hw) (by decide) (by decide)) q7a q7c (g := (mkF m 12 #[.val (.ref a), .val (.int 1), .val (.int ce0)] [(.int 1), (.ref a)])) rfl (by rw [hml]; rfl) (Steps.refl _) (argsL := [(.int (1 : Int32))]) (rest := []) (lenOf pd_16 rfl) rfl (by show 2 * 0 + _ ≤ _; exact Nat.le_of_eq rfl) (hb hby d6_12) (fun _ _ => ⟨rfl, E6, (own_le rfl), (own_le rfl)⟩)
      dsimp only [Pt.U, Pt.locs, Pt.cells, Pt.slots] at X7 l7 y7 z7 st7 hQ7
      subst y7 z7
      obtain ⟨hv7, N7q, E7⟩ := hQ7
      rw [own_utf HE1] at hv7
      subst hv7
      have N7 := own_fr l7 N6 N7q
      refine own_tr st7 ?_
      show oE _ _ _ _ (T7.setTop (mkF m 15 #[.val (.ref a), .val (.int 1), .val (.int ce0)] [(.int ce1)]))
      refine oT (fun _ u => XS.istoreN X7.here hx rfl (hb hby d6_15) rfl (l' := #[.val (.ref a), .val (.int (1 : Int32)), .val (.int ce1)]) rfl u) ?_
      refine oT (fun _ u => XS.iloadN X7.here hx rfl (hb hby d6_16) rfl u) ?_
      refine oT (fun _ u => XS.bipush X7.here hx rfl (hb hby d6_17) u) ?_
      by_cases hc19_8 : ce1 = (59 : Int32)
      · -- pc 19: ce1 = (59 : Int32)
        refine oT (fun _ u => XS.icmpYes X7.here hx rfl (pc0 := 19) (pc' := 29) rfl (hb hby d6_19) rfl (teq hc19_8).1 (by decide) (by decide) u) ?_
        show oE _ _ _ _ (T7.setTop (mkF m 29 #[.val (.ref a), .val (.int 1), .val (.int ce1)] []))
        have zf1 : own_f ce1 = 0 := own_f0 hc19_8
        refine oT (fun _ u => XS.iconst X7.here hx rfl (hb hby d6_29) u) ?_
        refine own_leave X7 (v := some (.int (0 : Int32))) (fun h => by rw [Bd.returns] at h; cases h) ?_ (by decide) (by decide) (fun fs hr => retN X7 hx (t := .boolean) Bd.returns (by simp) (hb hby d6_30) hr)
        show Q_rmFDU4 Z a cs_ rf_ b kb ce0 ce1 ce2 ce3 h0 n0 _ T7.heap _
        rw [E7]
        exact ⟨by simp [own_all4, nf0, zf1], N7, rfl⟩
      · -- pc 19: not ce1 = (59 : Int32)
        refine oT (fun _ u => XS.icmpNo X7.here hx rfl (hb hby d6_19) rfl (feq hc19_8).1 u) ?_
        show oE _ _ _ _ (T7.setTop (mkF m 22 #[.val (.ref a), .val (.int 1), .val (.int ce1)] []))
        refine oT (fun _ u => XS.iloadN X7.here hx rfl (hb hby d6_22) rfl u) ?_
        obtain ⟨_, _, ⟨T9, L9, k9, n9⟩, -, X9, ⟨Lc9, hQ9, l9, y9, z9⟩, st9⟩ := Jvm.LawKit.callS X7 hx (y := oM5) hown (mvT hZ (ow82 hw)) (mvT hZ (ow83 hw)) (mvT hZ (ow84 hw)) (mvT hZ (ow85 hw)) (by decide) (backOf (W := 0) (rmI1 l Z a0 hw [] ce1  h0 n0 O0 ) hZ (ow85 hw) (ow84 hw) (by decide) (by decide)) (g := (mkF m 23 #[.val (.ref a), .val (.int 1), .val (.int ce1)] [(.int ce1)])) rfl (by rw [hml]; rfl) (argsL := [(.int ce1)]) (rest := []) (lenOf pd_17 rfl) rfl (by show 2 * 0 + _ ≤ _; exact Nat.le_of_eq rfl) (hb hby d6_23) (fun _ _ => ⟨rfl, E7, (own_le rfl), (own_le rfl)⟩)
        dsimp only [Pt.U, Pt.locs, Pt.cells, Pt.slots] at X9 l9 y9 z9 st9 hQ9
        subst y9 z9
        obtain ⟨rfl, N9q, E9⟩ := hQ9
        have N9 := own_fr l9 N7 N9q
        refine oT st9 ?_
        show oE _ _ _ _ (T9.setTop (mkF m 26 #[.val (.ref a), .val (.int 1), .val (.int ce1)] [(.int (own_iso ce1))]))
        by_cases hc26_10 : (own_iso ce1) = (0 : Int32)
        · -- pc 26: (own_iso ce1) = (0 : Int32)
          refine oT (fun _ u => XS.ifYes X9.here hx rfl (pc0 := 26) (pc' := 31) rfl (hb hby d6_26) rfl ((if0 _ _).trans (teq hc26_10).1) (by decide) (by decide) u) ?_
          show oE _ _ _ _ (T9.setTop (mkF m 31 #[.val (.ref a), .val (.int 1), .val (.int ce1)] []))
          have nf1 := own_f2 HE1 hc19_8 hc26_10
          refine oT (fun _ u => XS.iinc X9.here hx rfl (hb hby d6_31) rfl (l' := #[.val (.ref a), .val (.int (2 : Int32)), .val (.int ce1)]) rfl u) ?_
          show oE _ _ _ _ (T9.setTop (mkF m 34 #[.val (.ref a), .val (.int 2), .val (.int ce1)] []))
          refine oT (fun _ u => XS.goto X9.here hx rfl (pc0 := 34) (pc' := 2) rfl (hb hby d6_34) (by decide) (by decide) u) ?_
          refine oT (fun _ u => XS.iloadN X9.here hx rfl (hb hby d6_2) rfl u) ?_
          refine oT (fun _ u => XS.aloadN X9.here hx rfl (hb hby d6_3) rfl rfl u) ?_
          obtain ⟨cq11, kq11, q11a, q11b, q11c⟩ := isOf hZ E9 HT.1
          obtain ⟨_, _, ⟨T11, L11, k11, n11⟩, -, X11, ⟨Lc11, hQ11, l11, y11, z11⟩, st11⟩ := X9.virtualBack hx (y := oM24) (z := oM24) hown (mvT hZ (ow36 hw)) (mvT hZ (ow37 hw)) (notFace_of_selects (args := #[]) (mvT hZ (ow39 hw))) (mvT hZ (ow39 hw)) (mvT hZ (ow38 hw)) (by decide) (backOf (W := 1) (rmLen1 l Z a0 hw [] a cs_ rf_ b kb (8 : Int32) [(.int ((ce0 >>> ((0 : Int32) &&& 31)).toInt8.toInt32)), (.int ((ce0 >>> ((8 : Int32) &&& 31)).toInt8.toInt32)), (.int ((ce1 >>> ((0 : Int32) &&& 31)).toInt8.toInt32)), (.int ((ce1 >>> ((8 : Int32) &&& 31)).toInt8.toInt32)), (.int ((ce2 >>> ((0 : Int32) &&& 31)).toInt8.toInt32)), (.int ((ce2 >>> ((8 : Int32) &&& 31)).toInt8.toInt32)), (.int ((ce3 >>> ((0 : Int32) &&& 31)).toInt8.toInt32)), (.int ((ce3 >>> ((8 : Int32) &&& 31)).toInt8.toInt32))] h0 n0 O0 HS ⟨HT.1, HT.2.1, HT.2.2.1, HT.2.2.2⟩) hZ (ow40 hw) (ow9 hw) (by decide) (by decide)) q11a q11c (g := (mkF m 4 #[.val (.ref a), .val (.int 2), .val (.int ce1)] [(.ref a), (.int 2)])) rfl (by rw [hml]; rfl) (Steps.refl _) (argsL := []) (rest := [(.int (2 : Int32))]) (lenOf pd_15 rfl) rfl (by show 2 * 0 + _ ≤ _; exact Nat.le_of_eq rfl) (hb hby d6_4) (fun _ _ => ⟨rfl, E9, (own_le rfl), (own_le rfl)⟩)
          dsimp only [Pt.U, Pt.locs, Pt.cells, Pt.slots] at X11 l11 y11 z11 st11 hQ11
          subst y11 z11
          obtain ⟨hv11, N11q, E11⟩ := hQ11
          rw [show ((8 : Int32) >>> ((1 : Int32) &&& 31)) = (4 : Int32) from by decide] at hv11
          subst hv11
          have N11 := own_fr l11 N9 N11q
          refine own_tr st11 ?_
          show oE _ _ _ _ (T11.setTop (mkF m 7 #[.val (.ref a), .val (.int 2), .val (.int ce1)] [(.int 4), (.int 2)]))
          refine oT (fun _ u => XS.icmpNo X11.here hx rfl (hb hby d6_7) rfl (tlt (by decide)).2.1 u) ?_
          show oE _ _ _ _ (T11.setTop (mkF m 10 #[.val (.ref a), .val (.int 2), .val (.int ce1)] []))
          refine oT (fun _ u => XS.aloadN X11.here hx rfl (hb hby d6_10) rfl rfl u) ?_
          refine oT (fun _ u => XS.iloadN X11.here hx rfl (hb hby d6_11) rfl u) ?_
          obtain ⟨cq12, kq12, q12a, q12b, q12c⟩ := isOf hZ E11 HT.1
          obtain ⟨_, _, ⟨T12, L12, k12, n12⟩, -, X12, ⟨Lc12, hQ12, l12, y12, z12⟩, st12⟩ := X11.virtualBack hx (y := oM23) (z := oM23) hown (mvT hZ (ow60 hw)) (mvT hZ (ow61 hw)) (notFace_of_selects (args := #[]) (mvT hZ (ow63 hw))) (mvT hZ (ow63 hw)) (mvT hZ (ow62 hw)) (by decide) (backOf (W := 0) (rmAU l Z a0 hw [] a (2 : Int32) cs_ rf_ b kb (8 : Int32) [(.int ((ce0 >>> ((0 : Int32) &&& 31)).toInt8.toInt32)), (.int ((ce0 >>> ((8 : Int32) &&& 31)).toInt8.toInt32)), (.int ((ce1 >>> ((0 : Int32) &&& 31)).toInt8.toInt32)), (.int ((ce1 >>> ((8 : Int32) &&& 31)).toInt8.toInt32)), (.int ((ce2 >>> ((0 : Int32) &&& 31)).toInt8.toInt32)), (.int ((ce2 >>> ((8 : Int32) &&& 31)).toInt8.toInt32)), (.int ((ce3 >>> ((0 : Int32) &&& 31)).toInt8.toInt32)), (.int ((ce3 >>> ((8 : Int32) &&& 31)).toInt8.toInt32))] ((ce2 >>> ((0 : Int32) &&& 31)).toInt8.toInt32) ((ce2 >>> ((8 : Int32) &&& 31)).toInt8.toInt32) h0 n0 O0 HS ⟨HT.1, HT.2.1, HT.2.2.1, HT.2.2.2⟩ ⟨by decide, by decide⟩ ⟨by decide, by decide⟩ ⟨by decide, by decide⟩ rfl rfl) hZ (ow64 hw) (ow9 hw) (by decide) (by decide)) q12a q12c (g := (mkF m 12 #[.val (.ref a), .val (.int 2), .val (.int ce1)] [(.int 2), (.ref a)])) rfl (by rw [hml]; rfl) (Steps.refl _) (argsL := [(.int (2 : Int32))]) (rest := []) (lenOf pd_16 rfl) rfl (by show 2 * 0 + _ ≤ _; exact Nat.le_of_eq rfl) (hb hby d6_12) (fun _ _ => ⟨rfl, E11, (own_le rfl), (own_le rfl)⟩)
          dsimp only [Pt.U, Pt.locs, Pt.cells, Pt.slots] at X12 l12 y12 z12 st12 hQ12
          subst y12 z12
          obtain ⟨hv12, N12q, E12⟩ := hQ12
          rw [own_utf HE2] at hv12
          subst hv12
          have N12 := own_fr l12 N11 N12q
          refine own_tr st12 ?_
          show oE _ _ _ _ (T12.setTop (mkF m 15 #[.val (.ref a), .val (.int 2), .val (.int ce1)] [(.int ce2)]))
          refine oT (fun _ u => XS.istoreN X12.here hx rfl (hb hby d6_15) rfl (l' := #[.val (.ref a), .val (.int (2 : Int32)), .val (.int ce2)]) rfl u) ?_
          refine oT (fun _ u => XS.iloadN X12.here hx rfl (hb hby d6_16) rfl u) ?_
          refine oT (fun _ u => XS.bipush X12.here hx rfl (hb hby d6_17) u) ?_
          by_cases hc19_13 : ce2 = (59 : Int32)
          · -- pc 19: ce2 = (59 : Int32)
            refine oT (fun _ u => XS.icmpYes X12.here hx rfl (pc0 := 19) (pc' := 29) rfl (hb hby d6_19) rfl (teq hc19_13).1 (by decide) (by decide) u) ?_
            show oE _ _ _ _ (T12.setTop (mkF m 29 #[.val (.ref a), .val (.int 2), .val (.int ce2)] []))
            have zf2 : own_f ce2 = 0 := own_f0 hc19_13
            refine oT (fun _ u => XS.iconst X12.here hx rfl (hb hby d6_29) u) ?_
            refine own_leave X12 (v := some (.int (0 : Int32))) (fun h => by rw [Bd.returns] at h; cases h) ?_ (by decide) (by decide) (fun fs hr => retN X12 hx (t := .boolean) Bd.returns (by simp) (hb hby d6_30) hr)
            show Q_rmFDU4 Z a cs_ rf_ b kb ce0 ce1 ce2 ce3 h0 n0 _ T12.heap _
            rw [E12]
            exact ⟨by simp [own_all4, nf0, nf1, zf2], N12, rfl⟩
          · -- pc 19: not ce2 = (59 : Int32)
            refine oT (fun _ u => XS.icmpNo X12.here hx rfl (hb hby d6_19) rfl (feq hc19_13).1 u) ?_
            show oE _ _ _ _ (T12.setTop (mkF m 22 #[.val (.ref a), .val (.int 2), .val (.int ce2)] []))
            refine oT (fun _ u => XS.iloadN X12.here hx rfl (hb hby d6_22) rfl u) ?_
            obtain ⟨_, _, ⟨T14, L14, k14, n14⟩, -, X14, ⟨Lc14, hQ14, l14, y14, z14⟩, st14⟩ := Jvm.LawKit.callS X12 hx (y := oM5) hown (mvT hZ (ow82 hw)) (mvT hZ (ow83 hw)) (mvT hZ (ow84 hw)) (mvT hZ (ow85 hw)) (by decide) (backOf (W := 0) (rmI1 l Z a0 hw [] ce2  h0 n0 O0 ) hZ (ow85 hw) (ow84 hw) (by decide) (by decide)) (g := (mkF m 23 #[.val (.ref a), .val (.int 2), .val (.int ce2)] [(.int ce2)])) rfl (by rw [hml]; rfl) (argsL := [(.int ce2)]) (rest := []) (lenOf pd_17 rfl) rfl (by show 2 * 0 + _ ≤ _; exact Nat.le_of_eq rfl) (hb hby d6_23) (fun _ _ => ⟨rfl, E12, (own_le rfl), (own_le rfl)⟩)
            dsimp only [Pt.U, Pt.locs, Pt.cells, Pt.slots] at X14 l14 y14 z14 st14 hQ14
            subst y14 z14
            obtain ⟨rfl, N14q, E14⟩ := hQ14
            have N14 := own_fr l14 N12 N14q
            refine oT st14 ?_
            show oE _ _ _ _ (T14.setTop (mkF m 26 #[.val (.ref a), .val (.int 2), .val (.int ce2)] [(.int (own_iso ce2))]))
            by_cases hc26_15 : (own_iso ce2) = (0 : Int32)
            · -- pc 26: (own_iso ce2) = (0 : Int32)
              refine oT (fun _ u => XS.ifYes X14.here hx rfl (pc0 := 26) (pc' := 31) rfl (hb hby d6_26) rfl ((if0 _ _).trans (teq hc26_15).1) (by decide) (by decide) u) ?_
              show oE _ _ _ _ (T14.setTop (mkF m 31 #[.val (.ref a), .val (.int 2), .val (.int ce2)] []))
              have nf2 := own_f2 HE2 hc19_13 hc26_15
              refine oT (fun _ u => XS.iinc X14.here hx rfl (hb hby d6_31) rfl (l' := #[.val (.ref a), .val (.int (3 : Int32)), .val (.int ce2)]) rfl u) ?_
              show oE _ _ _ _ (T14.setTop (mkF m 34 #[.val (.ref a), .val (.int 3), .val (.int ce2)] []))
              refine oT (fun _ u => XS.goto X14.here hx rfl (pc0 := 34) (pc' := 2) rfl (hb hby d6_34) (by decide) (by decide) u) ?_
              refine oT (fun _ u => XS.iloadN X14.here hx rfl (hb hby d6_2) rfl u) ?_
              refine oT (fun _ u => XS.aloadN X14.here hx rfl (hb hby d6_3) rfl rfl u) ?_
              obtain ⟨cq16, kq16, q16a, q16b, q16c⟩ := isOf hZ E14 HT.1
              obtain ⟨_, _, ⟨T16, L16, k16, n16⟩, -, X16, ⟨Lc16, hQ16, l16, y16, z16⟩, st16⟩ := X14.virtualBack hx (y := oM24) (z := oM24) hown (mvT hZ (ow36 hw)) (mvT hZ (ow37 hw)) (notFace_of_selects (args := #[]) (mvT hZ (ow39 hw))) (mvT hZ (ow39 hw)) (mvT hZ (ow38 hw)) (by decide) (backOf (W := 1) (rmLen1 l Z a0 hw [] a cs_ rf_ b kb (8 : Int32) [(.int ((ce0 >>> ((0 : Int32) &&& 31)).toInt8.toInt32)), (.int ((ce0 >>> ((8 : Int32) &&& 31)).toInt8.toInt32)), (.int ((ce1 >>> ((0 : Int32) &&& 31)).toInt8.toInt32)), (.int ((ce1 >>> ((8 : Int32) &&& 31)).toInt8.toInt32)), (.int ((ce2 >>> ((0 : Int32) &&& 31)).toInt8.toInt32)), (.int ((ce2 >>> ((8 : Int32) &&& 31)).toInt8.toInt32)), (.int ((ce3 >>> ((0 : Int32) &&& 31)).toInt8.toInt32)), (.int ((ce3 >>> ((8 : Int32) &&& 31)).toInt8.toInt32))] h0 n0 O0 HS ⟨HT.1, HT.2.1, HT.2.2.1, HT.2.2.2⟩) hZ (ow40 hw) (ow9 hw) (by decide) (by decide)) q16a q16c (g := (mkF m 4 #[.val (.ref a), .val (.int 3), .val (.int ce2)] [(.ref a), (.int 3)])) rfl (by rw [hml]; rfl) (Steps.refl _) (argsL := []) (rest := [(.int (3 : Int32))]) (lenOf pd_15 rfl) rfl (by show 2 * 0 + _ ≤ _; exact Nat.le_of_eq rfl) (hb hby d6_4) (fun _ _ => ⟨rfl, E14, (own_le rfl), (own_le rfl)⟩)
              dsimp only [Pt.U, Pt.locs, Pt.cells, Pt.slots] at X16 l16 y16 z16 st16 hQ16
              subst y16 z16
              obtain ⟨hv16, N16q, E16⟩ := hQ16
              rw [show ((8 : Int32) >>> ((1 : Int32) &&& 31)) = (4 : Int32) from by decide] at hv16
              subst hv16
              have N16 := own_fr l16 N14 N16q
              refine own_tr st16 ?_
              show oE _ _ _ _ (T16.setTop (mkF m 7 #[.val (.ref a), .val (.int 3), .val (.int ce2)] [(.int 4), (.int 3)]))
              refine oT (fun _ u => XS.icmpNo X16.here hx rfl (hb hby d6_7) rfl (tlt (by decide)).2.1 u) ?_
              show oE _ _ _ _ (T16.setTop (mkF m 10 #[.val (.ref a), .val (.int 3), .val (.int ce2)] []))
              refine oT (fun _ u => XS.aloadN X16.here hx rfl (hb hby d6_10) rfl rfl u) ?_
              refine oT (fun _ u => XS.iloadN X16.here hx rfl (hb hby d6_11) rfl u) ?_
              obtain ⟨cq17, kq17, q17a, q17b, q17c⟩ := isOf hZ E16 HT.1
              obtain ⟨_, _, ⟨T17, L17, k17, n17⟩, -, X17, ⟨Lc17, hQ17, l17, y17, z17⟩, st17⟩ := X16.virtualBack hx (y := oM23) (z := oM23) hown (mvT hZ (ow60 hw)) (mvT hZ (ow61 hw)) (notFace_of_selects (args := #[]) (mvT hZ (ow63 hw))) (mvT hZ (ow63 hw)) (mvT hZ (ow62 hw)) (by decide) (backOf (W := 0) (rmAU l Z a0 hw [] a (3 : Int32) cs_ rf_ b kb (8 : Int32) [(.int ((ce0 >>> ((0 : Int32) &&& 31)).toInt8.toInt32)), (.int ((ce0 >>> ((8 : Int32) &&& 31)).toInt8.toInt32)), (.int ((ce1 >>> ((0 : Int32) &&& 31)).toInt8.toInt32)), (.int ((ce1 >>> ((8 : Int32) &&& 31)).toInt8.toInt32)), (.int ((ce2 >>> ((0 : Int32) &&& 31)).toInt8.toInt32)), (.int ((ce2 >>> ((8 : Int32) &&& 31)).toInt8.toInt32)), (.int ((ce3 >>> ((0 : Int32) &&& 31)).toInt8.toInt32)), (.int ((ce3 >>> ((8 : Int32) &&& 31)).toInt8.toInt32))] ((ce3 >>> ((0 : Int32) &&& 31)).toInt8.toInt32) ((ce3 >>> ((8 : Int32) &&& 31)).toInt8.toInt32) h0 n0 O0 HS ⟨HT.1, HT.2.1, HT.2.2.1, HT.2.2.2⟩ ⟨by decide, by decide⟩ ⟨by decide, by decide⟩ ⟨by decide, by decide⟩ rfl rfl) hZ (ow64 hw) (ow9 hw) (by decide) (by decide)) q17a q17c (g := (mkF m 12 #[.val (.ref a), .val (.int 3), .val (.int ce2)] [(.int 3), (.ref a)])) rfl (by rw [hml]; rfl) (Steps.refl _) (argsL := [(.int (3 : Int32))]) (rest := []) (lenOf pd_16 rfl) rfl (by show 2 * 0 + _ ≤ _; exact Nat.le_of_eq rfl) (hb hby d6_12) (fun _ _ => ⟨rfl, E16, (own_le rfl), (own_le rfl)⟩)
              dsimp only [Pt.U, Pt.locs, Pt.cells, Pt.slots] at X17 l17 y17 z17 st17 hQ17
              subst y17 z17
              obtain ⟨hv17, N17q, E17⟩ := hQ17
              rw [own_utf HE3] at hv17
              subst hv17
              have N17 := own_fr l17 N16 N17q
              refine own_tr st17 ?_
              show oE _ _ _ _ (T17.setTop (mkF m 15 #[.val (.ref a), .val (.int 3), .val (.int ce2)] [(.int ce3)]))
              refine oT (fun _ u => XS.istoreN X17.here hx rfl (hb hby d6_15) rfl (l' := #[.val (.ref a), .val (.int (3 : Int32)), .val (.int ce3)]) rfl u) ?_
              refine oT (fun _ u => XS.iloadN X17.here hx rfl (hb hby d6_16) rfl u) ?_
              refine oT (fun _ u => XS.bipush X17.here hx rfl (hb hby d6_17) u) ?_
              by_cases hc19_18 : ce3 = (59 : Int32)
              · -- pc 19: ce3 = (59 : Int32)
                refine oT (fun _ u => XS.icmpYes X17.here hx rfl (pc0 := 19) (pc' := 29) rfl (hb hby d6_19) rfl (teq hc19_18).1 (by decide) (by decide) u) ?_
                show oE _ _ _ _ (T17.setTop (mkF m 29 #[.val (.ref a), .val (.int 3), .val (.int ce3)] []))
                have zf3 : own_f ce3 = 0 := own_f0 hc19_18
                refine oT (fun _ u => XS.iconst X17.here hx rfl (hb hby d6_29) u) ?_
                refine own_leave X17 (v := some (.int (0 : Int32))) (fun h => by rw [Bd.returns] at h; cases h) ?_ (by decide) (by decide) (fun fs hr => retN X17 hx (t := .boolean) Bd.returns (by simp) (hb hby d6_30) hr)
                show Q_rmFDU4 Z a cs_ rf_ b kb ce0 ce1 ce2 ce3 h0 n0 _ T17.heap _
                rw [E17]
                exact ⟨by simp [own_all4, nf0, nf1, nf2, zf3], N17, rfl⟩
              · -- pc 19: not ce3 = (59 : Int32)
                refine oT (fun _ u => XS.icmpNo X17.here hx rfl (hb hby d6_19) rfl (feq hc19_18).1 u) ?_
                show oE _ _ _ _ (T17.setTop (mkF m 22 #[.val (.ref a), .val (.int 3), .val (.int ce3)] []))
                refine oT (fun _ u => XS.iloadN X17.here hx rfl (hb hby d6_22) rfl u) ?_
                obtain ⟨_, _, ⟨T19, L19, k19, n19⟩, -, X19, ⟨Lc19, hQ19, l19, y19, z19⟩, st19⟩ := Jvm.LawKit.callS X17 hx (y := oM5) hown (mvT hZ (ow82 hw)) (mvT hZ (ow83 hw)) (mvT hZ (ow84 hw)) (mvT hZ (ow85 hw)) (by decide) (backOf (W := 0) (rmI1 l Z a0 hw [] ce3  h0 n0 O0 ) hZ (ow85 hw) (ow84 hw) (by decide) (by decide)) (g := (mkF m 23 #[.val (.ref a), .val (.int 3), .val (.int ce3)] [(.int ce3)])) rfl (by rw [hml]; rfl) (argsL := [(.int ce3)]) (rest := []) (lenOf pd_17 rfl) rfl (by show 2 * 0 + _ ≤ _; exact Nat.le_of_eq rfl) (hb hby d6_23) (fun _ _ => ⟨rfl, E17, (own_le rfl), (own_le rfl)⟩)
                dsimp only [Pt.U, Pt.locs, Pt.cells, Pt.slots] at X19 l19 y19 z19 st19 hQ19
                subst y19 z19
                obtain ⟨rfl, N19q, E19⟩ := hQ19
                have N19 := own_fr l19 N17 N19q
                refine oT st19 ?_
                show oE _ _ _ _ (T19.setTop (mkF m 26 #[.val (.ref a), .val (.int 3), .val (.int ce3)] [(.int (own_iso ce3))]))
                by_cases hc26_20 : (own_iso ce3) = (0 : Int32)
                · -- pc 26: (own_iso ce3) = (0 : Int32)
                  refine oT (fun _ u => XS.ifYes X19.here hx rfl (pc0 := 26) (pc' := 31) rfl (hb hby d6_26) rfl ((if0 _ _).trans (teq hc26_20).1) (by decide) (by decide) u) ?_
                  show oE _ _ _ _ (T19.setTop (mkF m 31 #[.val (.ref a), .val (.int 3), .val (.int ce3)] []))
                  have nf3 := own_f2 HE3 hc19_18 hc26_20
                  refine oT (fun _ u => XS.iinc X19.here hx rfl (hb hby d6_31) rfl (l' := #[.val (.ref a), .val (.int (4 : Int32)), .val (.int ce3)]) rfl u) ?_
                  show oE _ _ _ _ (T19.setTop (mkF m 34 #[.val (.ref a), .val (.int 4), .val (.int ce3)] []))
                  refine oT (fun _ u => XS.goto X19.here hx rfl (pc0 := 34) (pc' := 2) rfl (hb hby d6_34) (by decide) (by decide) u) ?_
                  refine oT (fun _ u => XS.iloadN X19.here hx rfl (hb hby d6_2) rfl u) ?_
                  refine oT (fun _ u => XS.aloadN X19.here hx rfl (hb hby d6_3) rfl rfl u) ?_
                  obtain ⟨cq21, kq21, q21a, q21b, q21c⟩ := isOf hZ E19 HT.1
                  obtain ⟨_, _, ⟨T21, L21, k21, n21⟩, -, X21, ⟨Lc21, hQ21, l21, y21, z21⟩, st21⟩ := X19.virtualBack hx (y := oM24) (z := oM24) hown (mvT hZ (ow36 hw)) (mvT hZ (ow37 hw)) (notFace_of_selects (args := #[]) (mvT hZ (ow39 hw))) (mvT hZ (ow39 hw)) (mvT hZ (ow38 hw)) (by decide) (backOf (W := 1) (rmLen1 l Z a0 hw [] a cs_ rf_ b kb (8 : Int32) [(.int ((ce0 >>> ((0 : Int32) &&& 31)).toInt8.toInt32)), (.int ((ce0 >>> ((8 : Int32) &&& 31)).toInt8.toInt32)), (.int ((ce1 >>> ((0 : Int32) &&& 31)).toInt8.toInt32)), (.int ((ce1 >>> ((8 : Int32) &&& 31)).toInt8.toInt32)), (.int ((ce2 >>> ((0 : Int32) &&& 31)).toInt8.toInt32)), (.int ((ce2 >>> ((8 : Int32) &&& 31)).toInt8.toInt32)), (.int ((ce3 >>> ((0 : Int32) &&& 31)).toInt8.toInt32)), (.int ((ce3 >>> ((8 : Int32) &&& 31)).toInt8.toInt32))] h0 n0 O0 HS ⟨HT.1, HT.2.1, HT.2.2.1, HT.2.2.2⟩) hZ (ow40 hw) (ow9 hw) (by decide) (by decide)) q21a q21c (g := (mkF m 4 #[.val (.ref a), .val (.int 4), .val (.int ce3)] [(.ref a), (.int 4)])) rfl (by rw [hml]; rfl) (Steps.refl _) (argsL := []) (rest := [(.int (4 : Int32))]) (lenOf pd_15 rfl) rfl (by show 2 * 0 + _ ≤ _; exact Nat.le_of_eq rfl) (hb hby d6_4) (fun _ _ => ⟨rfl, E19, (own_le rfl), (own_le rfl)⟩)
                  dsimp only [Pt.U, Pt.locs, Pt.cells, Pt.slots] at X21 l21 y21 z21 st21 hQ21
                  subst y21 z21
                  obtain ⟨hv21, N21q, E21⟩ := hQ21
                  rw [show ((8 : Int32) >>> ((1 : Int32) &&& 31)) = (4 : Int32) from by decide] at hv21
                  subst hv21
                  have N21 := own_fr l21 N19 N21q
                  refine own_tr st21 ?_
                  show oE _ _ _ _ (T21.setTop (mkF m 7 #[.val (.ref a), .val (.int 4), .val (.int ce3)] [(.int 4), (.int 4)]))
                  refine oT (fun _ u => XS.icmpYes X21.here hx rfl (pc0 := 7) (pc' := 37) rfl (hb hby d6_7) rfl (flt (by decide)).2.1 (by decide) (by decide) u) ?_
                  show oE _ _ _ _ (T21.setTop (mkF m 37 #[.val (.ref a), .val (.int 4), .val (.int ce3)] []))
                  refine oT (fun _ u => XS.iconst X21.here hx rfl (hb hby d6_37) u) ?_
                  refine own_leave X21 (v := some (.int (1 : Int32))) (fun h => by rw [Bd.returns] at h; cases h) ?_ (by decide) (by decide) (fun fs hr => retN X21 hx (t := .boolean) Bd.returns (by simp) (hb hby d6_38) hr)
                  show Q_rmFDU4 Z a cs_ rf_ b kb ce0 ce1 ce2 ce3 h0 n0 _ T21.heap _
                  rw [E21]
                  exact ⟨by simp [own_all4, nf0, nf1, nf2, nf3], N21, rfl⟩
                · -- pc 26: not (own_iso ce3) = (0 : Int32)
                  refine oT (fun _ u => XS.ifNo X19.here hx rfl (hb hby d6_26) rfl ((if0 _ _).trans (feq hc26_20).1) u) ?_
                  show oE _ _ _ _ (T19.setTop (mkF m 29 #[.val (.ref a), .val (.int 3), .val (.int ce3)] []))
                  have zf3 : own_f ce3 = 0 := own_f1 HE3 hc26_20
                  refine oT (fun _ u => XS.iconst X19.here hx rfl (hb hby d6_29) u) ?_
                  refine own_leave X19 (v := some (.int (0 : Int32))) (fun h => by rw [Bd.returns] at h; cases h) ?_ (by decide) (by decide) (fun fs hr => retN X19 hx (t := .boolean) Bd.returns (by simp) (hb hby d6_30) hr)
                  show Q_rmFDU4 Z a cs_ rf_ b kb ce0 ce1 ce2 ce3 h0 n0 _ T19.heap _
                  rw [E19]
                  exact ⟨by simp [own_all4, nf0, nf1, nf2, zf3], N19, rfl⟩
            · -- pc 26: not (own_iso ce2) = (0 : Int32)
              refine oT (fun _ u => XS.ifNo X14.here hx rfl (hb hby d6_26) rfl ((if0 _ _).trans (feq hc26_15).1) u) ?_
              show oE _ _ _ _ (T14.setTop (mkF m 29 #[.val (.ref a), .val (.int 2), .val (.int ce2)] []))
              have zf2 : own_f ce2 = 0 := own_f1 HE2 hc26_15
              refine oT (fun _ u => XS.iconst X14.here hx rfl (hb hby d6_29) u) ?_
              refine own_leave X14 (v := some (.int (0 : Int32))) (fun h => by rw [Bd.returns] at h; cases h) ?_ (by decide) (by decide) (fun fs hr => retN X14 hx (t := .boolean) Bd.returns (by simp) (hb hby d6_30) hr)
              show Q_rmFDU4 Z a cs_ rf_ b kb ce0 ce1 ce2 ce3 h0 n0 _ T14.heap _
              rw [E14]
              exact ⟨by simp [own_all4, nf0, nf1, zf2], N14, rfl⟩
        · -- pc 26: not (own_iso ce1) = (0 : Int32)
          refine oT (fun _ u => XS.ifNo X9.here hx rfl (hb hby d6_26) rfl ((if0 _ _).trans (feq hc26_10).1) u) ?_
          show oE _ _ _ _ (T9.setTop (mkF m 29 #[.val (.ref a), .val (.int 1), .val (.int ce1)] []))
          have zf1 : own_f ce1 = 0 := own_f1 HE1 hc26_10
          refine oT (fun _ u => XS.iconst X9.here hx rfl (hb hby d6_29) u) ?_
          refine own_leave X9 (v := some (.int (0 : Int32))) (fun h => by rw [Bd.returns] at h; cases h) ?_ (by decide) (by decide) (fun fs hr => retN X9 hx (t := .boolean) Bd.returns (by simp) (hb hby d6_30) hr)
          show Q_rmFDU4 Z a cs_ rf_ b kb ce0 ce1 ce2 ce3 h0 n0 _ T9.heap _
          rw [E9]
          exact ⟨by simp [own_all4, nf0, zf1], N9, rfl⟩
    · -- pc 26: not (own_iso ce0) = (0 : Int32)
      refine oT (fun _ u => XS.ifNo X4.here hx rfl (hb hby d6_26) rfl ((if0 _ _).trans (feq hc26_5).1) u) ?_
      show oE _ _ _ _ (T4.setTop (mkF m 29 #[.val (.ref a), .val (.int 0), .val (.int ce0)] []))
      have zf0 : own_f ce0 = 0 := own_f1 HE0 hc26_5
      refine oT (fun _ u => XS.iconst X4.here hx rfl (hb hby d6_29) u) ?_
      refine own_leave X4 (v := some (.int (0 : Int32))) (fun h => by rw [Bd.returns] at h; cases h) ?_ (by decide) (by decide) (fun fs hr => retN X4 hx (t := .boolean) Bd.returns (by simp) (hb hby d6_30) hr)
      show Q_rmFDU4 Z a cs_ rf_ b kb ce0 ce1 ce2 ce3 h0 n0 _ T4.heap _
      rw [E4]
      exact ⟨by simp [own_all4, zf0], N4, rfl⟩
def Q_rmFD0 (Z : State) (a : Addr) (cs_ : Int32) (rf_ : Value)  (h0 : Heap) (n0 : Nat) (v : Option Value) (h : Heap) (L : List Loc) : Prop := v = some (.int (own_all0 )) ∧ Fr n0 L ∧ h = h0
theorem rmFD0 (l : Launch) (Z : State) (a0 : Array Value) (hw : ∀ d ∈ tables_1, d.before a0 Z = true) (ws : List Jvm.Cond) (a : Addr) (cs_ : Int32) (rf_ : Value)  (h0 : Heap) (n0 : Nat) (O0 : Old Z n0 h0) (HS : own_HS Z cs_ rf_) (HT : own_Tx0 Z h0 a ) :
    MetFree l oM25 (head1 (Jvm.Cond.code oM25 prog_16_method_16_code 3 (some .boolean) :: ws) ({ frames := 5, cells := 0, slots := 0, locals := 84 } : Room)) (fun a_ U => a_ = #[(.ref a)] ∧ Z.Warmed39 U.vm ∧ U.heap = h0) (fun _ _ _ _ _ => True) (fun _ U o U' => ∃ v L, o = .returned v ∧ Q_rmFD0 Z a cs_ rf_  h0 n0 v U'.heap L ∧ FrameEnd U o U' L 0 0) := by
  rcases HT with ⟨b, kb, HT⟩ | ⟨b, kb, HT⟩
  · exact rmFDL0 l Z a0 hw ws a cs_ rf_ b kb  h0 n0 O0 HS HT 
  · exact rmFDU0 l Z a0 hw ws a cs_ rf_ b kb h0 n0 O0 HS HT
def Q_rmFD1 (Z : State) (a : Addr) (cs_ : Int32) (rf_ : Value) (ce0 : Int32) (h0 : Heap) (n0 : Nat) (v : Option Value) (h : Heap) (L : List Loc) : Prop := v = some (.int (own_all1 ce0)) ∧ Fr n0 L ∧ h = h0
theorem rmFD1 (l : Launch) (Z : State) (a0 : Array Value) (hw : ∀ d ∈ tables_1, d.before a0 Z = true) (ws : List Jvm.Cond) (a : Addr) (cs_ : Int32) (rf_ : Value) (ce0 : Int32) (h0 : Heap) (n0 : Nat) (O0 : Old Z n0 h0) (HS : own_HS Z cs_ rf_) (HT : own_Tx1 Z h0 a ce0) (HE0 : own_Ch ce0) :
    MetFree l oM25 (head1 (Jvm.Cond.code oM25 prog_16_method_16_code 3 (some .boolean) :: ws) ({ frames := 5, cells := 0, slots := 0, locals := 84 } : Room)) (fun a_ U => a_ = #[(.ref a)] ∧ Z.Warmed39 U.vm ∧ U.heap = h0) (fun _ _ _ _ _ => True) (fun _ U o U' => ∃ v L, o = .returned v ∧ Q_rmFD1 Z a cs_ rf_ ce0 h0 n0 v U'.heap L ∧ FrameEnd U o U' L 0 0) := by
  rcases HT with ⟨b, kb, HT⟩ | ⟨b, kb, HT⟩
  · exact rmFDL1 l Z a0 hw ws a cs_ rf_ b kb ce0 h0 n0 O0 HS HT HE0
  · exact rmFDU1 l Z a0 hw ws a cs_ rf_ b kb ce0 h0 n0 O0 HS HT HE0
def Q_rmFD2 (Z : State) (a : Addr) (cs_ : Int32) (rf_ : Value) (ce0 : Int32) (ce1 : Int32) (h0 : Heap) (n0 : Nat) (v : Option Value) (h : Heap) (L : List Loc) : Prop := v = some (.int (own_all2 ce0 ce1)) ∧ Fr n0 L ∧ h = h0
theorem rmFD2 (l : Launch) (Z : State) (a0 : Array Value) (hw : ∀ d ∈ tables_1, d.before a0 Z = true) (ws : List Jvm.Cond) (a : Addr) (cs_ : Int32) (rf_ : Value) (ce0 : Int32) (ce1 : Int32) (h0 : Heap) (n0 : Nat) (O0 : Old Z n0 h0) (HS : own_HS Z cs_ rf_) (HT : own_Tx2 Z h0 a ce0 ce1) (HE0 : own_Ch ce0) (HE1 : own_Ch ce1) :
    MetFree l oM25 (head1 (Jvm.Cond.code oM25 prog_16_method_16_code 3 (some .boolean) :: ws) ({ frames := 5, cells := 0, slots := 0, locals := 84 } : Room)) (fun a_ U => a_ = #[(.ref a)] ∧ Z.Warmed39 U.vm ∧ U.heap = h0) (fun _ _ _ _ _ => True) (fun _ U o U' => ∃ v L, o = .returned v ∧ Q_rmFD2 Z a cs_ rf_ ce0 ce1 h0 n0 v U'.heap L ∧ FrameEnd U o U' L 0 0) := by
  rcases HT with ⟨b, kb, HT⟩ | ⟨b, kb, HT⟩
  · exact rmFDL2 l Z a0 hw ws a cs_ rf_ b kb ce0 ce1 h0 n0 O0 HS HT HE0 HE1
  · exact rmFDU2 l Z a0 hw ws a cs_ rf_ b kb ce0 ce1 h0 n0 O0 HS HT HE0 HE1
def Q_rmFD3 (Z : State) (a : Addr) (cs_ : Int32) (rf_ : Value) (ce0 : Int32) (ce1 : Int32) (ce2 : Int32) (h0 : Heap) (n0 : Nat) (v : Option Value) (h : Heap) (L : List Loc) : Prop := v = some (.int (own_all3 ce0 ce1 ce2)) ∧ Fr n0 L ∧ h = h0
theorem rmFD3 (l : Launch) (Z : State) (a0 : Array Value) (hw : ∀ d ∈ tables_1, d.before a0 Z = true) (ws : List Jvm.Cond) (a : Addr) (cs_ : Int32) (rf_ : Value) (ce0 : Int32) (ce1 : Int32) (ce2 : Int32) (h0 : Heap) (n0 : Nat) (O0 : Old Z n0 h0) (HS : own_HS Z cs_ rf_) (HT : own_Tx3 Z h0 a ce0 ce1 ce2) (HE0 : own_Ch ce0) (HE1 : own_Ch ce1) (HE2 : own_Ch ce2) :
    MetFree l oM25 (head1 (Jvm.Cond.code oM25 prog_16_method_16_code 3 (some .boolean) :: ws) ({ frames := 5, cells := 0, slots := 0, locals := 84 } : Room)) (fun a_ U => a_ = #[(.ref a)] ∧ Z.Warmed39 U.vm ∧ U.heap = h0) (fun _ _ _ _ _ => True) (fun _ U o U' => ∃ v L, o = .returned v ∧ Q_rmFD3 Z a cs_ rf_ ce0 ce1 ce2 h0 n0 v U'.heap L ∧ FrameEnd U o U' L 0 0) := by
  rcases HT with ⟨b, kb, HT⟩ | ⟨b, kb, HT⟩
  · exact rmFDL3 l Z a0 hw ws a cs_ rf_ b kb ce0 ce1 ce2 h0 n0 O0 HS HT HE0 HE1 HE2
  · exact rmFDU3 l Z a0 hw ws a cs_ rf_ b kb ce0 ce1 ce2 h0 n0 O0 HS HT HE0 HE1 HE2
def Q_rmFD4 (Z : State) (a : Addr) (cs_ : Int32) (rf_ : Value) (ce0 : Int32) (ce1 : Int32) (ce2 : Int32) (ce3 : Int32) (h0 : Heap) (n0 : Nat) (v : Option Value) (h : Heap) (L : List Loc) : Prop := v = some (.int (own_all4 ce0 ce1 ce2 ce3)) ∧ Fr n0 L ∧ h = h0
theorem rmFD4 (l : Launch) (Z : State) (a0 : Array Value) (hw : ∀ d ∈ tables_1, d.before a0 Z = true) (ws : List Jvm.Cond) (a : Addr) (cs_ : Int32) (rf_ : Value) (ce0 : Int32) (ce1 : Int32) (ce2 : Int32) (ce3 : Int32) (h0 : Heap) (n0 : Nat) (O0 : Old Z n0 h0) (HS : own_HS Z cs_ rf_) (HT : own_Tx4 Z h0 a ce0 ce1 ce2 ce3) (HE0 : own_Ch ce0) (HE1 : own_Ch ce1) (HE2 : own_Ch ce2) (HE3 : own_Ch ce3) :
    MetFree l oM25 (head1 (Jvm.Cond.code oM25 prog_16_method_16_code 3 (some .boolean) :: ws) ({ frames := 5, cells := 0, slots := 0, locals := 84 } : Room)) (fun a_ U => a_ = #[(.ref a)] ∧ Z.Warmed39 U.vm ∧ U.heap = h0) (fun _ _ _ _ _ => True) (fun _ U o U' => ∃ v L, o = .returned v ∧ Q_rmFD4 Z a cs_ rf_ ce0 ce1 ce2 ce3 h0 n0 v U'.heap L ∧ FrameEnd U o U' L 0 0) := by
  rcases HT with ⟨b, kb, HT⟩ | ⟨b, kb, HT⟩
  · exact rmFDL4 l Z a0 hw ws a cs_ rf_ b kb ce0 ce1 ce2 ce3 h0 n0 O0 HS HT HE0 HE1 HE2 HE3
  · exact rmFDU4 l Z a0 hw ws a cs_ rf_ b kb ce0 ce1 ce2 ce3 h0 n0 O0 HS HT HE0 HE1 HE2 HE3
theorem pn_0 : plainName "com/example/quittance/quittance/apply/CashApplicationFitsDescriptionPinLaw" = true := by first | (simp [plainName, overriddenIn]; done) | decide +kernel
theorem pd_18 : parseMethodDescriptor "(ICCCC)[C" = some ⟨[.int, .char, .char, .char, .char], some (.array .char)⟩ := by decide +kernel
theorem pd_19 : parseMethodDescriptor "([C)V" = some ⟨[(.array .char)], none⟩ := by decide +kernel
theorem pd_20 : parseMethodDescriptor "(Ljava/lang/String;)Z" = some ⟨[(.object "java/lang/String")], some .boolean⟩ := by decide +kernel
theorem ef_rm0 (m : MethodId) (z0 : Int32) (z1 : Int32) (z2 : Int32) (z3 : Int32) (z4 : Int32) : entryFrame m #[(.int z0), (.int z1), (.int z2), (.int z3), (.int z4)] maxLocals = mkF m 0 #[.val (.int z0), .val (.int z1), .val (.int z2), .val (.int z3), .val (.int z4), .unset, .unset, .unset, .unset, .unset, .unset, .unset] [] := by first | (simp [entryFrame, mkF, argsToLocals, Value.category, maxLocals]; done) | rfl | (rcases ref_cases hrf with rfl | ⟨q, rfl⟩ <;> rfl)
def Q_rm0 (Z : State) (z0 : Int32) (z1 : Int32) (z2 : Int32) (z3 : Int32) (z4 : Int32) (cs_ : Int32) (rf_ : Value) (h0 : Heap) (n0 : Nat) (v : Option Value) (h : Heap) (L : List Loc) : Prop := v = some (.int 1) ∧ Fr n0 L
theorem rm0 (l : Launch) (Z : State) (a0 : Array Value) (hw : ∀ d ∈ tables_1, d.before a0 Z = true) (ws : List Jvm.Cond) (z0 : Int32) (z1 : Int32) (z2 : Int32) (z3 : Int32) (z4 : Int32) (cs_ : Int32) (rf_ : Value) (h0 : Heap) (n0 : Nat) (O0 : Old Z n0 h0) (HS : own_HS Z cs_ rf_) :
    MetFree l x (head1 (Jvm.Cond.code x code maxLocals ret :: ws) room_1) (fun aq_ U => aq_ = #[(.int z0), (.int z1), (.int z2), (.int z3), (.int z4)] ∧ Z.Warmed39 U.vm ∧ U.heap = h0 ∧ CHv Z [("java/lang/String", 7)] U.vm h0) (fun _ _ _ _ _ => True) (fun _ U o U' => ∃ v L, o = .returned v ∧ Q_rm0 Z z0 z1 z2 z3 z4 cs_ rf_ h0 n0 v U'.heap L ∧ ReturnedEndW U o U' L 24 1152) := by
  refine MetFree.of_bodySF (plainFor_of_name pn_0) hisR ?_
  intro p e s m args below meth c s₁ Bd hml0 hP hK
  obtain ⟨rfl, hZ, hh, hCH⟩ := hP
  have hx := Bd.exec
  have hby := Bd.bytes
  have hml : c.maxLocals = 12 := hml0
  have hown : s.vm.findClass "com/example/quittance/quittance/apply/CashApplicationFitsDescriptionPinLaw" = some m.cls := findClass_of_methodNamed Bd.named
  have hnm := (name_of_methodNamed Bd.named Bd.method).1
  have X0 : Stand p l e room_1 (s.setVm s.vm) m #[(.int z0), (.int z1), (.int z2), (.int z3), (.int z4)] below meth c s₁ [] 0 0 := Stand.of_body Bd
  have e0 : s₁.heap = h0 := by rw [← hh, Bd.state]; rfl
  have N0 := Fr.nil n0
  have hS0 : s.Since s.vm 0 := (State.WarmedH.refl s).since 0
  show oE p.tables e below (own_PW s (Q_rm0 Z z0 z1 z2 z3 z4 cs_ rf_ h0 n0) 24 1152) _
  refine own_cast (ef_rm0 m z0 z1 z2 z3 z4) ?_
  show oE _ _ _ _ (s₁.setTop (mkF m 0 #[.val (.int z0), .val (.int z1), .val (.int z2), .val (.int z3), .val (.int z4), .unset, .unset, .unset, .unset, .unset, .unset, .unset] []))
  refine oT (fun _ u => XS.iloadN X0.here hx rfl (hb hby at_0) rfl u) ?_
  refine oT (X0.ldcInt hx hown (mvT hZ (ow0 hw)) (g := (mkF m 1 #[.val (.int z0), .val (.int z1), .val (.int z2), .val (.int z3), .val (.int z4), .unset, .unset, .unset, .unset, .unset, .unset, .unset] [(.int z0)])) rfl (hb hby at_1)) ?_
  show oE _ _ _ _ (s₁.setTop (mkF m 3 #[.val (.int z0), .val (.int z1), .val (.int z2), .val (.int z3), .val (.int z4), .unset, .unset, .unset, .unset, .unset, .unset, .unset] [(.int 2147483647), (.int z0)]))
  refine oT (fun _ u => XS.iand X0.here hx rfl (hb hby at_3) rfl u) ?_
  refine oT (fun _ u => XS.iconst X0.here hx rfl (hb hby at_4) u) ?_
  refine oT (fun _ u => iremM X0 hx rfl (hb hby at_5) rfl (by decide) u) ?_
  show oE _ _ _ _ (s₁.setTop (mkF m 6 #[.val (.int z0), .val (.int z1), .val (.int z2), .val (.int z3), .val (.int z4), .unset, .unset, .unset, .unset, .unset, .unset, .unset] [(.int ((z0 &&& (2147483647 : Int32)) % (5 : Int32)))]))
  refine oT (fun _ u => XS.istore X0.here hx rfl (hb hby at_6) rfl (l' := #[.val (.int z0), .val (.int z1), .val (.int z2), .val (.int z3), .val (.int z4), .val (.int ((z0 &&& (2147483647 : Int32)) % (5 : Int32))), .unset, .unset, .unset, .unset, .unset, .unset]) rfl u) ?_
  refine oT (fun _ u => XS.iloadN X0.here hx rfl (hb hby at_8) rfl u) ?_
  obtain ⟨_, _, ⟨T1, L1, k1, n1⟩, -, X1, ⟨Lc1, hQ1, l1, y1, z1⟩, st1⟩ := Jvm.LawKit.callS X0 hx (y := oM0) hown (mvT hZ (ow1 hw)) (mvT hZ (ow2 hw)) (mvT hZ (ow3 hw)) (mvT hZ (ow4 hw)) (by decide) (backOf (W := 0) (rmD l Z a0 hw [] z1  h0 n0 O0 ) hZ (ow4 hw) (ow3 hw) (by decide) (by decide)) (g := (mkF m 9 #[.val (.int z0), .val (.int z1), .val (.int z2), .val (.int z3), .val (.int z4), .val (.int ((z0 &&& (2147483647 : Int32)) % (5 : Int32))), .unset, .unset, .unset, .unset, .unset, .unset] [(.int z1)])) rfl (by rw [hml]; rfl) (argsL := [(.int z1)]) (rest := []) (lenOf pd_16 rfl) rfl (by show 2 * 0 + _ ≤ _; exact Nat.le_of_eq rfl) (hb hby at_9) (fun _ _ => ⟨rfl, e0, (own_le rfl), (own_le rfl)⟩)
  dsimp only [Pt.U, Pt.locs, Pt.cells, Pt.slots] at X1 l1 y1 z1 st1 hQ1
  subst y1 z1
  obtain ⟨ce0, rfl, HE0, N1q, E1⟩ := hQ1
  have N1 := own_fr l1 N0 N1q
  refine oT st1 ?_
  show oE _ _ _ _ (T1.setTop (mkF m 12 #[.val (.int z0), .val (.int z1), .val (.int z2), .val (.int z3), .val (.int z4), .val (.int ((z0 &&& (2147483647 : Int32)) % (5 : Int32))), .unset, .unset, .unset, .unset, .unset, .unset] [(.int ce0)]))
  refine oT (fun _ u => XS.istore X1.here hx rfl (hb hby at_12) rfl (l' := #[.val (.int z0), .val (.int z1), .val (.int z2), .val (.int z3), .val (.int z4), .val (.int ((z0 &&& (2147483647 : Int32)) % (5 : Int32))), .val (.int ce0), .unset, .unset, .unset, .unset, .unset]) rfl u) ?_
  refine oT (fun _ u => XS.iloadN X1.here hx rfl (hb hby at_14) rfl u) ?_
  obtain ⟨_, _, ⟨T2, L2, k2, n2⟩, -, X2, ⟨Lc2, hQ2, l2, y2, z2⟩, st2⟩ := Jvm.LawKit.callS X1 hx (y := oM0) hown (mvT hZ (ow1 hw)) (mvT hZ (ow2 hw)) (mvT hZ (ow3 hw)) (mvT hZ (ow4 hw)) (by decide) (backOf (W := 0) (rmD l Z a0 hw [] z2  h0 n0 O0 ) hZ (ow4 hw) (ow3 hw) (by decide) (by decide)) (g := (mkF m 15 #[.val (.int z0), .val (.int z1), .val (.int z2), .val (.int z3), .val (.int z4), .val (.int ((z0 &&& (2147483647 : Int32)) % (5 : Int32))), .val (.int ce0), .unset, .unset, .unset, .unset, .unset] [(.int z2)])) rfl (by rw [hml]; rfl) (argsL := [(.int z2)]) (rest := []) (lenOf pd_16 rfl) rfl (by show 2 * 0 + _ ≤ _; exact Nat.le_of_eq rfl) (hb hby at_15) (fun _ _ => ⟨rfl, E1, (own_le rfl), (own_le rfl)⟩)
  dsimp only [Pt.U, Pt.locs, Pt.cells, Pt.slots] at X2 l2 y2 z2 st2 hQ2
  subst y2 z2
  obtain ⟨ce1, rfl, HE1, N2q, E2⟩ := hQ2
  have N2 := own_fr l2 N1 N2q
  refine oT st2 ?_
  show oE _ _ _ _ (T2.setTop (mkF m 18 #[.val (.int z0), .val (.int z1), .val (.int z2), .val (.int z3), .val (.int z4), .val (.int ((z0 &&& (2147483647 : Int32)) % (5 : Int32))), .val (.int ce0), .unset, .unset, .unset, .unset, .unset] [(.int ce1)]))
  refine oT (fun _ u => XS.istore X2.here hx rfl (hb hby at_18) rfl (l' := #[.val (.int z0), .val (.int z1), .val (.int z2), .val (.int z3), .val (.int z4), .val (.int ((z0 &&& (2147483647 : Int32)) % (5 : Int32))), .val (.int ce0), .val (.int ce1), .unset, .unset, .unset, .unset]) rfl u) ?_
  refine oT (fun _ u => XS.iloadN X2.here hx rfl (hb hby at_20) rfl u) ?_
  obtain ⟨_, _, ⟨T3, L3, k3, n3⟩, -, X3, ⟨Lc3, hQ3, l3, y3, z3⟩, st3⟩ := Jvm.LawKit.callS X2 hx (y := oM0) hown (mvT hZ (ow1 hw)) (mvT hZ (ow2 hw)) (mvT hZ (ow3 hw)) (mvT hZ (ow4 hw)) (by decide) (backOf (W := 0) (rmD l Z a0 hw [] z3  h0 n0 O0 ) hZ (ow4 hw) (ow3 hw) (by decide) (by decide)) (g := (mkF m 21 #[.val (.int z0), .val (.int z1), .val (.int z2), .val (.int z3), .val (.int z4), .val (.int ((z0 &&& (2147483647 : Int32)) % (5 : Int32))), .val (.int ce0), .val (.int ce1), .unset, .unset, .unset, .unset] [(.int z3)])) rfl (by rw [hml]; rfl) (argsL := [(.int z3)]) (rest := []) (lenOf pd_16 rfl) rfl (by show 2 * 0 + _ ≤ _; exact Nat.le_of_eq rfl) (hb hby at_21) (fun _ _ => ⟨rfl, E2, (own_le rfl), (own_le rfl)⟩)
  dsimp only [Pt.U, Pt.locs, Pt.cells, Pt.slots] at X3 l3 y3 z3 st3 hQ3
  subst y3 z3
  obtain ⟨ce2, rfl, HE2, N3q, E3⟩ := hQ3
  have N3 := own_fr l3 N2 N3q
  refine oT st3 ?_
  show oE _ _ _ _ (T3.setTop (mkF m 24 #[.val (.int z0), .val (.int z1), .val (.int z2), .val (.int z3), .val (.int z4), .val (.int ((z0 &&& (2147483647 : Int32)) % (5 : Int32))), .val (.int ce0), .val (.int ce1), .unset, .unset, .unset, .unset] [(.int ce2)]))
  refine oT (fun _ u => XS.istore X3.here hx rfl (hb hby at_24) rfl (l' := #[.val (.int z0), .val (.int z1), .val (.int z2), .val (.int z3), .val (.int z4), .val (.int ((z0 &&& (2147483647 : Int32)) % (5 : Int32))), .val (.int ce0), .val (.int ce1), .val (.int ce2), .unset, .unset, .unset]) rfl u) ?_
  refine oT (fun _ u => XS.iload X3.here hx rfl (hb hby at_26) rfl u) ?_
  obtain ⟨_, _, ⟨T4, L4, k4, n4⟩, -, X4, ⟨Lc4, hQ4, l4, y4, z4⟩, st4⟩ := Jvm.LawKit.callS X3 hx (y := oM0) hown (mvT hZ (ow1 hw)) (mvT hZ (ow2 hw)) (mvT hZ (ow3 hw)) (mvT hZ (ow4 hw)) (by decide) (backOf (W := 0) (rmD l Z a0 hw [] z4  h0 n0 O0 ) hZ (ow4 hw) (ow3 hw) (by decide) (by decide)) (g := (mkF m 28 #[.val (.int z0), .val (.int z1), .val (.int z2), .val (.int z3), .val (.int z4), .val (.int ((z0 &&& (2147483647 : Int32)) % (5 : Int32))), .val (.int ce0), .val (.int ce1), .val (.int ce2), .unset, .unset, .unset] [(.int z4)])) rfl (by rw [hml]; rfl) (argsL := [(.int z4)]) (rest := []) (lenOf pd_16 rfl) rfl (by show 2 * 0 + _ ≤ _; exact Nat.le_of_eq rfl) (hb hby at_28) (fun _ _ => ⟨rfl, E3, (own_le rfl), (own_le rfl)⟩)
  dsimp only [Pt.U, Pt.locs, Pt.cells, Pt.slots] at X4 l4 y4 z4 st4 hQ4
  subst y4 z4
  obtain ⟨ce3, rfl, HE3, N4q, E4⟩ := hQ4
  have N4 := own_fr l4 N3 N4q
  refine oT st4 ?_
  show oE _ _ _ _ (T4.setTop (mkF m 31 #[.val (.int z0), .val (.int z1), .val (.int z2), .val (.int z3), .val (.int z4), .val (.int ((z0 &&& (2147483647 : Int32)) % (5 : Int32))), .val (.int ce0), .val (.int ce1), .val (.int ce2), .unset, .unset, .unset] [(.int ce3)]))
  refine oT (fun _ u => XS.istore X4.here hx rfl (hb hby at_31) rfl (l' := #[.val (.int z0), .val (.int z1), .val (.int z2), .val (.int z3), .val (.int z4), .val (.int ((z0 &&& (2147483647 : Int32)) % (5 : Int32))), .val (.int ce0), .val (.int ce1), .val (.int ce2), .val (.int ce3), .unset, .unset]) rfl u) ?_
  show oE _ _ _ _ (T4.setTop (mkF m 33 #[.val (.int z0), .val (.int z1), .val (.int z2), .val (.int z3), .val (.int z4), .val (.int ((z0 &&& (2147483647 : Int32)) % (5 : Int32))), .val (.int ce0), .val (.int ce1), .val (.int ce2), .val (.int ce3), .unset, .unset] []))
  generalize hi5 : ((z0 &&& (2147483647 : Int32)) % (5 : Int32)) = i5
  rcases (hi5 ▸ own_mod5 z0 : i5 = 0 ∨ i5 = 1 ∨ i5 = 2 ∨ i5 = 3 ∨ i5 = 4) with rfl | rfl | rfl | rfl | rfl
  · skip
    show oE _ _ _ _ (T4.setTop (mkF m 33 #[.val (.int z0), .val (.int z1), .val (.int z2), .val (.int z3), .val (.int z4), .val (.int 0), .val (.int ce0), .val (.int ce1), .val (.int ce2), .val (.int ce3), .unset, .unset] []))
    obtain ⟨T6, h6, X6, e6, E6, A6, D6, U6, st6⟩ := newO X4 hx hZ hown (ow7 hw) (ow8 hw) (ow9 hw) E4 (g := (mkF m 33 #[.val (.int z0), .val (.int z1), .val (.int z2), .val (.int z3), .val (.int z4), .val (.int 0), .val (.int ce0), .val (.int ce1), .val (.int ce2), .val (.int ce3), .unset, .unset] [])) rfl (hb hby at_33) (by decide) (by decide)
    obtain ⟨b6, g6⟩ : ∃ z, z = h0.size := ⟨_, rfl⟩
    rw [← g6] at A6 D6 st6
    have g_b6 : n0 ≤ b6 := Nat.le_trans (own_old_le O0) (Nat.le_of_eq g6.symm)
    refine oT st6 ?_
    have O6 := O0.ext E6
    have Fd6_value : Fld Z h6 b6 "java/lang/String" "value" "[B" .null := D6 (Or.inr (ow26 hw)) (ty := (.array .byte)) (by decide)
    have Fd6_coder : Fld Z h6 b6 "java/lang/String" "coder" "B" (.int (0 : Int32)) := D6 (Or.inr (ow27 hw)) (ty := .byte) (by decide)
    show oE _ _ _ _ (T6.setTop (mkF m 36 #[.val (.int z0), .val (.int z1), .val (.int z2), .val (.int z3), .val (.int z4), .val (.int 0), .val (.int ce0), .val (.int ce1), .val (.int ce2), .val (.int ce3), .unset, .unset] [(.ref b6)]))
    refine oT (fun _ u => XS.dup X6.here hx rfl (hb hby at_36) rfl rfl u) ?_
    refine oT (fun _ u => XS.iload X6.here hx rfl (hb hby at_37) rfl u) ?_
    refine oT (fun _ u => XS.iload X6.here hx rfl (hb hby at_39) rfl u) ?_
    refine oT (fun _ u => XS.iload X6.here hx rfl (hb hby at_41) rfl u) ?_
    refine oT (fun _ u => XS.iload X6.here hx rfl (hb hby at_43) rfl u) ?_
    refine oT (fun _ u => XS.iload X6.here hx rfl (hb hby at_45) rfl u) ?_
    show oE _ _ _ _ (T6.setTop (mkF m 47 #[.val (.int z0), .val (.int z1), .val (.int z2), .val (.int z3), .val (.int z4), .val (.int 0), .val (.int ce0), .val (.int ce1), .val (.int ce2), .val (.int ce3), .unset, .unset] [(.int ce3), (.int ce2), (.int ce1), (.int ce0), (.int 0), (.ref b6), (.ref b6)]))
    obtain ⟨_, _, ⟨T7, L7, k7, n7⟩, -, X7, ⟨Lc7, hQ7, l7, y7, z7⟩, st7⟩ := Jvm.LawKit.callS X6 hx (y := oM1) hown (mvT hZ (ow10 hw)) (mvT hZ (ow11 hw)) (mvT hZ (ow3 hw)) (mvT hZ (ow12 hw)) (by decide) (backOf (W := 2) (rmC0 l Z a0 hw [] ce0 ce1 ce2 ce3  h6 n0 O6 HE0 HE1 HE2 HE3) hZ (ow12 hw) (ow3 hw) (by decide) (by decide)) (g := (mkF m 47 #[.val (.int z0), .val (.int z1), .val (.int z2), .val (.int z3), .val (.int z4), .val (.int 0), .val (.int ce0), .val (.int ce1), .val (.int ce2), .val (.int ce3), .unset, .unset] [(.int ce3), (.int ce2), (.int ce1), (.int ce0), (.int 0), (.ref b6), (.ref b6)])) rfl (by rw [hml]; rfl) (argsL := [(.int (0 : Int32)), (.int ce0), (.int ce1), (.int ce2), (.int ce3)]) (rest := [(.ref b6), (.ref b6)]) (lenOf pd_18 rfl) rfl (by show 2 * 0 + _ ≤ _; exact Nat.le_of_eq rfl) (hb hby at_47) (fun _ _ => ⟨rfl, e6, (own_le rfl), (own_le rfl)⟩)
    dsimp only [Pt.U, Pt.locs, Pt.cells, Pt.slots] at X7 l7 y7 z7 st7 hQ7
    subst y7 z7
    obtain ⟨u7, ku7, rfl, g_u7, sq_u7, N7q, Oq7, Kq7, Vx7⟩ := hQ7
    have N7 := own_fr l7 N4 N7q
    have ne_b6_u7 : b6 ≠ u7 := Nat.ne_of_lt (Nat.lt_of_lt_of_le A6.lt sq_u7)
    refine oT st7 ?_
    show oE _ _ _ _ (T7.setTop (mkF m 50 #[.val (.int z0), .val (.int z1), .val (.int z2), .val (.int z3), .val (.int z4), .val (.int 0), .val (.int ce0), .val (.int ce1), .val (.int ce2), .val (.int ce3), .unset, .unset] [(.ref u7), (.ref b6), (.ref b6)]))
    obtain ⟨_, _, ⟨T8, L8, k8, n8⟩, -, X8, hSq8, gq8, ⟨Lc8, hQ8, l8, y8, z8⟩, st8⟩ := X7.specialBackS hx (y := oM16) rfl hown (mvT hZ (ow14 hw)) (mvT hZ (ow15 hw)) (mvT hZ (ow16 hw)) (by decide) (own_backSH (W := 1) (in1_0 l Z a0 hw [] b6 u7 ku7 T7.heap n0 Oq7 g_b6 (A6.keep Kq7) (Fd6_value.keep Kq7 nin0) (Fd6_coder.keep Kq7 nin0) Vx7) hZ (ow16 hw) (ow9 hw) (by decide) (by decide) (own_ew hw) (CHv.keep Kq7 all0 (CHv.ext E6 hCH))) (g := (mkF m 50 #[.val (.int z0), .val (.int z1), .val (.int z2), .val (.int z3), .val (.int z4), .val (.int 0), .val (.int ce0), .val (.int ce1), .val (.int ce2), .val (.int ce3), .unset, .unset] [(.ref u7), (.ref b6), (.ref b6)])) rfl (by rw [hml]; rfl) (Steps.refl _) (a := b6) (argsL := [(.ref u7)]) (rest := [(.ref b6)]) (lenOf pd_19 rfl) rfl (by show 2 * 0 + _ ≤ _; exact Nat.le_of_eq rfl) (hb hby at_50) (fun _ _ => ⟨rfl, rfl, (own_le rfl), (own_le rfl)⟩)
    dsimp only [Pt.U, Pt.locs, Pt.cells, Pt.slots] at X8 l8 y8 z8 st8 hQ8 hSq8 gq8
    subst y8 z8
    obtain ⟨X8, hS8, hZ, hown⟩ := rebS hS0 (Nat.le_trans (Nat.le_trans (Nat.zero_le _) E6.1) Kq7.1) X8 hSq8 gq8 hZ hown
    obtain ⟨rfl, N8q, Oq8, Kq8, HT8⟩ := hQ8
    have N8 := own_fr l8 N7 N8q
    refine own_tr st8 ?_
    show oE _ _ _ _ (T8.setTop (mkF m 53 #[.val (.int z0), .val (.int z1), .val (.int z2), .val (.int z3), .val (.int z4), .val (.int 0), .val (.int ce0), .val (.int ce1), .val (.int ce2), .val (.int ce3), .unset, .unset] [(.ref b6)]))
    refine oT (fun _ u => XS.astore X8.here hx rfl (hb hby at_53) rfl rfl (l' := #[.val (.int z0), .val (.int z1), .val (.int z2), .val (.int z3), .val (.int z4), .val (.int (0 : Int32)), .val (.int ce0), .val (.int ce1), .val (.int ce2), .val (.int ce3), .val (.ref b6), .unset]) rfl u) ?_
    refine oT (fun _ u => XS.iload X8.here hx rfl (hb hby at_55) rfl u) ?_
    refine oT (fun _ u => XS.iconst X8.here hx rfl (hb hby at_57) u) ?_
    refine oT (fun _ u => XS.icmpYes X8.here hx rfl (pc0 := 58) (pc' := 69) rfl (hb hby at_58) rfl (tlt (by decide)).1 (by decide) (by decide) u) ?_
    show oE _ _ _ _ (T8.setTop (mkF m 69 #[.val (.int z0), .val (.int z1), .val (.int z2), .val (.int z3), .val (.int z4), .val (.int 0), .val (.int ce0), .val (.int ce1), .val (.int ce2), .val (.int ce3), .val (.ref b6), .unset] []))
    refine oT (fun _ u => XS.iload X8.here hx rfl (hb hby at_69) rfl u) ?_
    refine oT (fun _ u => XS.iconst X8.here hx rfl (hb hby at_71) u) ?_
    refine oT (fun _ u => XS.icmpYes X8.here hx rfl (pc0 := 72) (pc' := 83) rfl (hb hby at_72) rfl (tlt (by decide)).1 (by decide) (by decide) u) ?_
    show oE _ _ _ _ (T8.setTop (mkF m 83 #[.val (.int z0), .val (.int z1), .val (.int z2), .val (.int z3), .val (.int z4), .val (.int 0), .val (.int ce0), .val (.int ce1), .val (.int ce2), .val (.int ce3), .val (.ref b6), .unset] []))
    refine oT (fun _ u => XS.iload X8.here hx rfl (hb hby at_83) rfl u) ?_
    refine oT (fun _ u => XS.iconst X8.here hx rfl (hb hby at_85) u) ?_
    refine oT (fun _ u => XS.icmpYes X8.here hx rfl (pc0 := 86) (pc' := 97) rfl (hb hby at_86) rfl (tlt (by decide)).1 (by decide) (by decide) u) ?_
    show oE _ _ _ _ (T8.setTop (mkF m 97 #[.val (.int z0), .val (.int z1), .val (.int z2), .val (.int z3), .val (.int z4), .val (.int 0), .val (.int ce0), .val (.int ce1), .val (.int ce2), .val (.int ce3), .val (.ref b6), .unset] []))
    refine oT (fun _ u => XS.iload X8.here hx rfl (hb hby at_97) rfl u) ?_
    refine oT (fun _ u => XS.iconst X8.here hx rfl (hb hby at_99) u) ?_
    refine oT (fun _ u => XS.icmpYes X8.here hx rfl (pc0 := 100) (pc' := 111) rfl (hb hby at_100) rfl (tlt (by decide)).1 (by decide) (by decide) u) ?_
    show oE _ _ _ _ (T8.setTop (mkF m 111 #[.val (.int z0), .val (.int z1), .val (.int z2), .val (.int z3), .val (.int z4), .val (.int 0), .val (.int ce0), .val (.int ce1), .val (.int ce2), .val (.int ce3), .val (.ref b6), .unset] []))
    refine oT (fun _ u => XS.iconst X8.here hx rfl (hb hby at_111) u) ?_
    refine oT (fun _ u => XS.goto X8.here hx rfl (pc0 := 112) (pc' := 116) rfl (hb hby at_112) (by decide) (by decide) u) ?_
    refine oT (fun _ u => XS.istore X8.here hx rfl (hb hby at_116) rfl (l' := #[.val (.int z0), .val (.int z1), .val (.int z2), .val (.int z3), .val (.int z4), .val (.int (0 : Int32)), .val (.int ce0), .val (.int ce1), .val (.int ce2), .val (.int ce3), .val (.ref b6), .val (.int (1 : Int32))]) rfl u) ?_
    refine oT (fun _ u => XS.aload X8.here hx rfl (hb hby at_118) rfl rfl u) ?_
    obtain ⟨_, _, ⟨T9, L9, k9, n9⟩, -, X9, ⟨Lc9, hQ9, l9, y9, z9⟩, st9⟩ := Jvm.LawKit.callS X8 hx (y := oM25) hown (mvT hZ (ow32 hw)) (mvT hZ (ow33 hw)) (mvT hZ (ow34 hw)) (mvT hZ (ow35 hw)) (by decide) (backOf (W := 0) (rmFD0 l Z a0 hw [] b6 cs_ rf_  T8.heap n0 Oq8 HS HT8 ) hZ (ow35 hw) (ow34 hw) (by decide) (by decide)) (g := (mkF m 120 #[.val (.int z0), .val (.int z1), .val (.int z2), .val (.int z3), .val (.int z4), .val (.int 0), .val (.int ce0), .val (.int ce1), .val (.int ce2), .val (.int ce3), .val (.ref b6), .val (.int 1)] [(.ref b6)])) rfl (by rw [hml]; rfl) (argsL := [(.ref b6)]) (rest := []) (lenOf pd_20 rfl) rfl (by show 2 * 0 + _ ≤ _; exact Nat.le_of_eq rfl) (hb hby at_120) (fun _ _ => ⟨rfl, rfl, (own_le rfl), (own_le rfl)⟩)
    dsimp only [Pt.U, Pt.locs, Pt.cells, Pt.slots] at X9 l9 y9 z9 st9 hQ9
    subst y9 z9
    obtain ⟨hv9, N9q, E9⟩ := hQ9
    rw [show own_all0  = 1 from by simp [own_all0]] at hv9
    subst hv9
    have N9 := own_fr l9 N8 N9q
    refine oT st9 ?_
    show oE _ _ _ _ (T9.setTop (mkF m 123 #[.val (.int z0), .val (.int z1), .val (.int z2), .val (.int z3), .val (.int z4), .val (.int 0), .val (.int ce0), .val (.int ce1), .val (.int ce2), .val (.int ce3), .val (.ref b6), .val (.int 1)] [(.int 1)]))
    refine oT (fun _ u => XS.iload X9.here hx rfl (hb hby at_123) rfl u) ?_
    refine oT (fun _ u => XS.icmpNo X9.here hx rfl (hb hby at_125) rfl (teq (by decide)).2 u) ?_
    show oE _ _ _ _ (T9.setTop (mkF m 128 #[.val (.int z0), .val (.int z1), .val (.int z2), .val (.int z3), .val (.int z4), .val (.int 0), .val (.int ce0), .val (.int ce1), .val (.int ce2), .val (.int ce3), .val (.ref b6), .val (.int 1)] []))
    refine oT (fun _ u => XS.iconst X9.here hx rfl (hb hby at_128) u) ?_
    refine oT (fun _ u => XS.goto X9.here hx rfl (pc0 := 129) (pc' := 133) rfl (hb hby at_129) (by decide) (by decide) u) ?_
    refine own_leaveW X9 hS8 (by rw [E9]; exact (Nat.le_refl _)) (v := some (.int (1 : Int32))) (fun h => by rw [Bd.returns] at h; cases h) ?_ (by decide) (by decide) (fun fs hr => retN X9 hx (t := .boolean) Bd.returns (by simp) (hb hby at_133) hr)
    show Q_rm0 Z z0 z1 z2 z3 z4 cs_ rf_ h0 n0 _ T9.heap _
    rw [E9]
    exact ⟨rfl, N9⟩
  · skip
    show oE _ _ _ _ (T4.setTop (mkF m 33 #[.val (.int z0), .val (.int z1), .val (.int z2), .val (.int z3), .val (.int z4), .val (.int 1), .val (.int ce0), .val (.int ce1), .val (.int ce2), .val (.int ce3), .unset, .unset] []))
    obtain ⟨T10, h10, X10, e10, E10, A10, D10, U10, st10⟩ := newO X4 hx hZ hown (ow7 hw) (ow8 hw) (ow9 hw) E4 (g := (mkF m 33 #[.val (.int z0), .val (.int z1), .val (.int z2), .val (.int z3), .val (.int z4), .val (.int 1), .val (.int ce0), .val (.int ce1), .val (.int ce2), .val (.int ce3), .unset, .unset] [])) rfl (hb hby at_33) (by decide) (by decide)
    obtain ⟨b10, g10⟩ : ∃ z, z = h0.size := ⟨_, rfl⟩
    rw [← g10] at A10 D10 st10
    have g_b10 : n0 ≤ b10 := Nat.le_trans (own_old_le O0) (Nat.le_of_eq g10.symm)
    refine oT st10 ?_
    have O10 := O0.ext E10
    have Fd10_value : Fld Z h10 b10 "java/lang/String" "value" "[B" .null := D10 (Or.inr (ow26 hw)) (ty := (.array .byte)) (by decide)
    have Fd10_coder : Fld Z h10 b10 "java/lang/String" "coder" "B" (.int (0 : Int32)) := D10 (Or.inr (ow27 hw)) (ty := .byte) (by decide)
    show oE _ _ _ _ (T10.setTop (mkF m 36 #[.val (.int z0), .val (.int z1), .val (.int z2), .val (.int z3), .val (.int z4), .val (.int 1), .val (.int ce0), .val (.int ce1), .val (.int ce2), .val (.int ce3), .unset, .unset] [(.ref b10)]))
    refine oT (fun _ u => XS.dup X10.here hx rfl (hb hby at_36) rfl rfl u) ?_
    refine oT (fun _ u => XS.iload X10.here hx rfl (hb hby at_37) rfl u) ?_
    refine oT (fun _ u => XS.iload X10.here hx rfl (hb hby at_39) rfl u) ?_
    refine oT (fun _ u => XS.iload X10.here hx rfl (hb hby at_41) rfl u) ?_
    refine oT (fun _ u => XS.iload X10.here hx rfl (hb hby at_43) rfl u) ?_
    refine oT (fun _ u => XS.iload X10.here hx rfl (hb hby at_45) rfl u) ?_
    show oE _ _ _ _ (T10.setTop (mkF m 47 #[.val (.int z0), .val (.int z1), .val (.int z2), .val (.int z3), .val (.int z4), .val (.int 1), .val (.int ce0), .val (.int ce1), .val (.int ce2), .val (.int ce3), .unset, .unset] [(.int ce3), (.int ce2), (.int ce1), (.int ce0), (.int 1), (.ref b10), (.ref b10)]))
    obtain ⟨_, _, ⟨T11, L11, k11, n11⟩, -, X11, ⟨Lc11, hQ11, l11, y11, z11⟩, st11⟩ := Jvm.LawKit.callS X10 hx (y := oM1) hown (mvT hZ (ow10 hw)) (mvT hZ (ow11 hw)) (mvT hZ (ow3 hw)) (mvT hZ (ow12 hw)) (by decide) (backOf (W := 2) (rmC1 l Z a0 hw [] ce0 ce1 ce2 ce3  h10 n0 O10 HE0 HE1 HE2 HE3) hZ (ow12 hw) (ow3 hw) (by decide) (by decide)) (g := (mkF m 47 #[.val (.int z0), .val (.int z1), .val (.int z2), .val (.int z3), .val (.int z4), .val (.int 1), .val (.int ce0), .val (.int ce1), .val (.int ce2), .val (.int ce3), .unset, .unset] [(.int ce3), (.int ce2), (.int ce1), (.int ce0), (.int 1), (.ref b10), (.ref b10)])) rfl (by rw [hml]; rfl) (argsL := [(.int (1 : Int32)), (.int ce0), (.int ce1), (.int ce2), (.int ce3)]) (rest := [(.ref b10), (.ref b10)]) (lenOf pd_18 rfl) rfl (by show 2 * 0 + _ ≤ _; exact Nat.le_of_eq rfl) (hb hby at_47) (fun _ _ => ⟨rfl, e10, (own_le rfl), (own_le rfl)⟩)
    dsimp only [Pt.U, Pt.locs, Pt.cells, Pt.slots] at X11 l11 y11 z11 st11 hQ11
    subst y11 z11
    obtain ⟨u11, ku11, rfl, g_u11, sq_u11, N11q, Oq11, Kq11, Vx11⟩ := hQ11
    have N11 := own_fr l11 N4 N11q
    have ne_b10_u11 : b10 ≠ u11 := Nat.ne_of_lt (Nat.lt_of_lt_of_le A10.lt sq_u11)
    refine oT st11 ?_
    show oE _ _ _ _ (T11.setTop (mkF m 50 #[.val (.int z0), .val (.int z1), .val (.int z2), .val (.int z3), .val (.int z4), .val (.int 1), .val (.int ce0), .val (.int ce1), .val (.int ce2), .val (.int ce3), .unset, .unset] [(.ref u11), (.ref b10), (.ref b10)]))
    obtain ⟨_, _, ⟨T12, L12, k12, n12⟩, -, X12, ⟨Lc12, hQ12, l12, y12, z12⟩, st12⟩ := X11.specialBack hx (y := oM16) rfl hown (mvT hZ (ow14 hw)) (mvT hZ (ow15 hw)) (mvT hZ (ow16 hw)) (by decide) (backOf (W := 1) (in1_1 l Z a0 hw [] b10 u11 cs_ rf_ ku11 ce0 T11.heap n0 Oq11 g_b10 (A10.keep Kq11) (Fd10_value.keep Kq11 nin0) (Fd10_coder.keep Kq11 nin0) Vx11 (Ne.symm ne_b10_u11) HS HE0) hZ (ow16 hw) (ow9 hw) (by decide) (by decide)) (g := (mkF m 50 #[.val (.int z0), .val (.int z1), .val (.int z2), .val (.int z3), .val (.int z4), .val (.int 1), .val (.int ce0), .val (.int ce1), .val (.int ce2), .val (.int ce3), .unset, .unset] [(.ref u11), (.ref b10), (.ref b10)])) rfl (by rw [hml]; rfl) (Steps.refl _) (a := b10) (argsL := [(.ref u11)]) (rest := [(.ref b10)]) (lenOf pd_19 rfl) rfl (by show 2 * 0 + _ ≤ _; exact Nat.le_of_eq rfl) (hb hby at_50) (fun _ _ => ⟨rfl, rfl, (own_le rfl), (own_le rfl)⟩)
    dsimp only [Pt.U, Pt.locs, Pt.cells, Pt.slots] at X12 l12 y12 z12 st12 hQ12
    subst y12 z12
    obtain ⟨rfl, N12q, Oq12, Kq12, HT12⟩ := hQ12
    have N12 := own_fr l12 N11 N12q
    refine own_tr st12 ?_
    show oE _ _ _ _ (T12.setTop (mkF m 53 #[.val (.int z0), .val (.int z1), .val (.int z2), .val (.int z3), .val (.int z4), .val (.int 1), .val (.int ce0), .val (.int ce1), .val (.int ce2), .val (.int ce3), .unset, .unset] [(.ref b10)]))
    refine oT (fun _ u => XS.astore X12.here hx rfl (hb hby at_53) rfl rfl (l' := #[.val (.int z0), .val (.int z1), .val (.int z2), .val (.int z3), .val (.int z4), .val (.int (1 : Int32)), .val (.int ce0), .val (.int ce1), .val (.int ce2), .val (.int ce3), .val (.ref b10), .unset]) rfl u) ?_
    refine oT (fun _ u => XS.iload X12.here hx rfl (hb hby at_55) rfl u) ?_
    refine oT (fun _ u => XS.iconst X12.here hx rfl (hb hby at_57) u) ?_
    refine oT (fun _ u => XS.icmpNo X12.here hx rfl (hb hby at_58) rfl (flt (by decide)).1 u) ?_
    show oE _ _ _ _ (T12.setTop (mkF m 61 #[.val (.int z0), .val (.int z1), .val (.int z2), .val (.int z3), .val (.int z4), .val (.int 1), .val (.int ce0), .val (.int ce1), .val (.int ce2), .val (.int ce3), .val (.ref b10), .unset] []))
    refine oT (fun _ u => XS.iload X12.here hx rfl (hb hby at_61) rfl u) ?_
    obtain ⟨_, _, ⟨T13, L13, k13, n13⟩, -, X13, ⟨Lc13, hQ13, l13, y13, z13⟩, st13⟩ := Jvm.LawKit.callS X12 hx (y := oM6) hown (mvT hZ (ow57 hw)) (mvT hZ (ow58 hw)) (mvT hZ (ow3 hw)) (mvT hZ (ow59 hw)) (by decide) (backOf (W := 0) (rmFi l Z a0 hw [] ce0  T12.heap n0 Oq12 ) hZ (ow59 hw) (ow3 hw) (by decide) (by decide)) (g := (mkF m 63 #[.val (.int z0), .val (.int z1), .val (.int z2), .val (.int z3), .val (.int z4), .val (.int 1), .val (.int ce0), .val (.int ce1), .val (.int ce2), .val (.int ce3), .val (.ref b10), .unset] [(.int ce0)])) rfl (by rw [hml]; rfl) (argsL := [(.int ce0)]) (rest := []) (lenOf pd_17 rfl) rfl (by show 2 * 0 + _ ≤ _; exact Nat.le_of_eq rfl) (hb hby at_63) (fun _ _ => ⟨rfl, rfl, (own_le rfl), (own_le rfl)⟩)
    dsimp only [Pt.U, Pt.locs, Pt.cells, Pt.slots] at X13 l13 y13 z13 st13 hQ13
    subst y13 z13
    obtain ⟨rfl, N13q, E13⟩ := hQ13
    have N13 := own_fr l13 N12 N13q
    refine oT st13 ?_
    show oE _ _ _ _ (T13.setTop (mkF m 66 #[.val (.int z0), .val (.int z1), .val (.int z2), .val (.int z3), .val (.int z4), .val (.int 1), .val (.int ce0), .val (.int ce1), .val (.int ce2), .val (.int ce3), .val (.ref b10), .unset] [(.int (own_f ce0))]))
    by_cases hc66_14 : (own_f ce0) = (0 : Int32)
    · -- pc 66: (own_f ce0) = (0 : Int32)
      refine oT (fun _ u => XS.ifYes X13.here hx rfl (pc0 := 66) (pc' := 115) rfl (hb hby at_66) rfl ((if0 _ _).trans (teq hc66_14).1) (by decide) (by decide) u) ?_
      show oE _ _ _ _ (T13.setTop (mkF m 115 #[.val (.int z0), .val (.int z1), .val (.int z2), .val (.int z3), .val (.int z4), .val (.int 1), .val (.int ce0), .val (.int ce1), .val (.int ce2), .val (.int ce3), .val (.ref b10), .unset] []))
      refine oT (fun _ u => XS.iconst X13.here hx rfl (hb hby at_115) u) ?_
      refine oT (fun _ u => XS.istore X13.here hx rfl (hb hby at_116) rfl (l' := #[.val (.int z0), .val (.int z1), .val (.int z2), .val (.int z3), .val (.int z4), .val (.int (1 : Int32)), .val (.int ce0), .val (.int ce1), .val (.int ce2), .val (.int ce3), .val (.ref b10), .val (.int (0 : Int32))]) rfl u) ?_
      refine oT (fun _ u => XS.aload X13.here hx rfl (hb hby at_118) rfl rfl u) ?_
      obtain ⟨_, _, ⟨T15, L15, k15, n15⟩, -, X15, ⟨Lc15, hQ15, l15, y15, z15⟩, st15⟩ := Jvm.LawKit.callS X13 hx (y := oM25) hown (mvT hZ (ow32 hw)) (mvT hZ (ow33 hw)) (mvT hZ (ow34 hw)) (mvT hZ (ow35 hw)) (by decide) (backOf (W := 0) (rmFD1 l Z a0 hw [] b10 cs_ rf_ ce0 T12.heap n0 Oq12 HS HT12 HE0) hZ (ow35 hw) (ow34 hw) (by decide) (by decide)) (g := (mkF m 120 #[.val (.int z0), .val (.int z1), .val (.int z2), .val (.int z3), .val (.int z4), .val (.int 1), .val (.int ce0), .val (.int ce1), .val (.int ce2), .val (.int ce3), .val (.ref b10), .val (.int 0)] [(.ref b10)])) rfl (by rw [hml]; rfl) (argsL := [(.ref b10)]) (rest := []) (lenOf pd_20 rfl) rfl (by show 2 * 0 + _ ≤ _; exact Nat.le_of_eq rfl) (hb hby at_120) (fun _ _ => ⟨rfl, E13, (own_le rfl), (own_le rfl)⟩)
      dsimp only [Pt.U, Pt.locs, Pt.cells, Pt.slots] at X15 l15 y15 z15 st15 hQ15
      subst y15 z15
      obtain ⟨hv15, N15q, E15⟩ := hQ15
      rw [show own_all1 ce0 = 0 from by simp [own_all1, hc66_14]] at hv15
      subst hv15
      have N15 := own_fr l15 N13 N15q
      refine oT st15 ?_
      show oE _ _ _ _ (T15.setTop (mkF m 123 #[.val (.int z0), .val (.int z1), .val (.int z2), .val (.int z3), .val (.int z4), .val (.int 1), .val (.int ce0), .val (.int ce1), .val (.int ce2), .val (.int ce3), .val (.ref b10), .val (.int 0)] [(.int 0)]))
      refine oT (fun _ u => XS.iload X15.here hx rfl (hb hby at_123) rfl u) ?_
      refine oT (fun _ u => XS.icmpNo X15.here hx rfl (hb hby at_125) rfl (teq (by decide)).2 u) ?_
      show oE _ _ _ _ (T15.setTop (mkF m 128 #[.val (.int z0), .val (.int z1), .val (.int z2), .val (.int z3), .val (.int z4), .val (.int 1), .val (.int ce0), .val (.int ce1), .val (.int ce2), .val (.int ce3), .val (.ref b10), .val (.int 0)] []))
      refine oT (fun _ u => XS.iconst X15.here hx rfl (hb hby at_128) u) ?_
      refine oT (fun _ u => XS.goto X15.here hx rfl (pc0 := 129) (pc' := 133) rfl (hb hby at_129) (by decide) (by decide) u) ?_
      refine own_leaveW X15 hS0 (by rw [E15]; exact (Nat.le_trans (Nat.le_trans (Nat.le_trans (Nat.zero_le _) E10.1) Kq11.1) Kq12.1)) (v := some (.int (1 : Int32))) (fun h => by rw [Bd.returns] at h; cases h) ?_ (by decide) (by decide) (fun fs hr => retN X15 hx (t := .boolean) Bd.returns (by simp) (hb hby at_133) hr)
      show Q_rm0 Z z0 z1 z2 z3 z4 cs_ rf_ h0 n0 _ T15.heap _
      rw [E15]
      exact ⟨rfl, N15⟩
    · -- pc 66: not (own_f ce0) = (0 : Int32)
      refine oT (fun _ u => XS.ifNo X13.here hx rfl (hb hby at_66) rfl ((if0 _ _).trans (feq hc66_14).1) u) ?_
      show oE _ _ _ _ (T13.setTop (mkF m 69 #[.val (.int z0), .val (.int z1), .val (.int z2), .val (.int z3), .val (.int z4), .val (.int 1), .val (.int ce0), .val (.int ce1), .val (.int ce2), .val (.int ce3), .val (.ref b10), .unset] []))
      refine oT (fun _ u => XS.iload X13.here hx rfl (hb hby at_69) rfl u) ?_
      refine oT (fun _ u => XS.iconst X13.here hx rfl (hb hby at_71) u) ?_
      refine oT (fun _ u => XS.icmpYes X13.here hx rfl (pc0 := 72) (pc' := 83) rfl (hb hby at_72) rfl (tlt (by decide)).1 (by decide) (by decide) u) ?_
      show oE _ _ _ _ (T13.setTop (mkF m 83 #[.val (.int z0), .val (.int z1), .val (.int z2), .val (.int z3), .val (.int z4), .val (.int 1), .val (.int ce0), .val (.int ce1), .val (.int ce2), .val (.int ce3), .val (.ref b10), .unset] []))
      refine oT (fun _ u => XS.iload X13.here hx rfl (hb hby at_83) rfl u) ?_
      refine oT (fun _ u => XS.iconst X13.here hx rfl (hb hby at_85) u) ?_
      refine oT (fun _ u => XS.icmpYes X13.here hx rfl (pc0 := 86) (pc' := 97) rfl (hb hby at_86) rfl (tlt (by decide)).1 (by decide) (by decide) u) ?_
      show oE _ _ _ _ (T13.setTop (mkF m 97 #[.val (.int z0), .val (.int z1), .val (.int z2), .val (.int z3), .val (.int z4), .val (.int 1), .val (.int ce0), .val (.int ce1), .val (.int ce2), .val (.int ce3), .val (.ref b10), .unset] []))
      refine oT (fun _ u => XS.iload X13.here hx rfl (hb hby at_97) rfl u) ?_
      refine oT (fun _ u => XS.iconst X13.here hx rfl (hb hby at_99) u) ?_
      refine oT (fun _ u => XS.icmpYes X13.here hx rfl (pc0 := 100) (pc' := 111) rfl (hb hby at_100) rfl (tlt (by decide)).1 (by decide) (by decide) u) ?_
      show oE _ _ _ _ (T13.setTop (mkF m 111 #[.val (.int z0), .val (.int z1), .val (.int z2), .val (.int z3), .val (.int z4), .val (.int 1), .val (.int ce0), .val (.int ce1), .val (.int ce2), .val (.int ce3), .val (.ref b10), .unset] []))
      refine oT (fun _ u => XS.iconst X13.here hx rfl (hb hby at_111) u) ?_
      refine oT (fun _ u => XS.goto X13.here hx rfl (pc0 := 112) (pc' := 116) rfl (hb hby at_112) (by decide) (by decide) u) ?_
      refine oT (fun _ u => XS.istore X13.here hx rfl (hb hby at_116) rfl (l' := #[.val (.int z0), .val (.int z1), .val (.int z2), .val (.int z3), .val (.int z4), .val (.int (1 : Int32)), .val (.int ce0), .val (.int ce1), .val (.int ce2), .val (.int ce3), .val (.ref b10), .val (.int (1 : Int32))]) rfl u) ?_
      refine oT (fun _ u => XS.aload X13.here hx rfl (hb hby at_118) rfl rfl u) ?_
      obtain ⟨_, _, ⟨T16, L16, k16, n16⟩, -, X16, ⟨Lc16, hQ16, l16, y16, z16⟩, st16⟩ := Jvm.LawKit.callS X13 hx (y := oM25) hown (mvT hZ (ow32 hw)) (mvT hZ (ow33 hw)) (mvT hZ (ow34 hw)) (mvT hZ (ow35 hw)) (by decide) (backOf (W := 0) (rmFD1 l Z a0 hw [] b10 cs_ rf_ ce0 T12.heap n0 Oq12 HS HT12 HE0) hZ (ow35 hw) (ow34 hw) (by decide) (by decide)) (g := (mkF m 120 #[.val (.int z0), .val (.int z1), .val (.int z2), .val (.int z3), .val (.int z4), .val (.int 1), .val (.int ce0), .val (.int ce1), .val (.int ce2), .val (.int ce3), .val (.ref b10), .val (.int 1)] [(.ref b10)])) rfl (by rw [hml]; rfl) (argsL := [(.ref b10)]) (rest := []) (lenOf pd_20 rfl) rfl (by show 2 * 0 + _ ≤ _; exact Nat.le_of_eq rfl) (hb hby at_120) (fun _ _ => ⟨rfl, E13, (own_le rfl), (own_le rfl)⟩)
      dsimp only [Pt.U, Pt.locs, Pt.cells, Pt.slots] at X16 l16 y16 z16 st16 hQ16
      subst y16 z16
      obtain ⟨hv16, N16q, E16⟩ := hQ16
      rw [show own_all1 ce0 = 1 from by simp [own_all1, hc66_14]] at hv16
      subst hv16
      have N16 := own_fr l16 N13 N16q
      refine oT st16 ?_
      show oE _ _ _ _ (T16.setTop (mkF m 123 #[.val (.int z0), .val (.int z1), .val (.int z2), .val (.int z3), .val (.int z4), .val (.int 1), .val (.int ce0), .val (.int ce1), .val (.int ce2), .val (.int ce3), .val (.ref b10), .val (.int 1)] [(.int 1)]))
      refine oT (fun _ u => XS.iload X16.here hx rfl (hb hby at_123) rfl u) ?_
      refine oT (fun _ u => XS.icmpNo X16.here hx rfl (hb hby at_125) rfl (teq (by decide)).2 u) ?_
      show oE _ _ _ _ (T16.setTop (mkF m 128 #[.val (.int z0), .val (.int z1), .val (.int z2), .val (.int z3), .val (.int z4), .val (.int 1), .val (.int ce0), .val (.int ce1), .val (.int ce2), .val (.int ce3), .val (.ref b10), .val (.int 1)] []))
      refine oT (fun _ u => XS.iconst X16.here hx rfl (hb hby at_128) u) ?_
      refine oT (fun _ u => XS.goto X16.here hx rfl (pc0 := 129) (pc' := 133) rfl (hb hby at_129) (by decide) (by decide) u) ?_
      refine own_leaveW X16 hS0 (by rw [E16]; exact (Nat.le_trans (Nat.le_trans (Nat.le_trans (Nat.zero_le _) E10.1) Kq11.1) Kq12.1)) (v := some (.int (1 : Int32))) (fun h => by rw [Bd.returns] at h; cases h) ?_ (by decide) (by decide) (fun fs hr => retN X16 hx (t := .boolean) Bd.returns (by simp) (hb hby at_133) hr)
      show Q_rm0 Z z0 z1 z2 z3 z4 cs_ rf_ h0 n0 _ T16.heap _
      rw [E16]
      exact ⟨rfl, N16⟩
  · skip
    show oE _ _ _ _ (T4.setTop (mkF m 33 #[.val (.int z0), .val (.int z1), .val (.int z2), .val (.int z3), .val (.int z4), .val (.int 2), .val (.int ce0), .val (.int ce1), .val (.int ce2), .val (.int ce3), .unset, .unset] []))
    obtain ⟨T17, h17, X17, e17, E17, A17, D17, U17, st17⟩ := newO X4 hx hZ hown (ow7 hw) (ow8 hw) (ow9 hw) E4 (g := (mkF m 33 #[.val (.int z0), .val (.int z1), .val (.int z2), .val (.int z3), .val (.int z4), .val (.int 2), .val (.int ce0), .val (.int ce1), .val (.int ce2), .val (.int ce3), .unset, .unset] [])) rfl (hb hby at_33) (by decide) (by decide)
    obtain ⟨b17, g17⟩ : ∃ z, z = h0.size := ⟨_, rfl⟩
    rw [← g17] at A17 D17 st17
    have g_b17 : n0 ≤ b17 := Nat.le_trans (own_old_le O0) (Nat.le_of_eq g17.symm)
    refine oT st17 ?_
    have O17 := O0.ext E17
    have Fd17_value : Fld Z h17 b17 "java/lang/String" "value" "[B" .null := D17 (Or.inr (ow26 hw)) (ty := (.array .byte)) (by decide)
    have Fd17_coder : Fld Z h17 b17 "java/lang/String" "coder" "B" (.int (0 : Int32)) := D17 (Or.inr (ow27 hw)) (ty := .byte) (by decide)
    show oE _ _ _ _ (T17.setTop (mkF m 36 #[.val (.int z0), .val (.int z1), .val (.int z2), .val (.int z3), .val (.int z4), .val (.int 2), .val (.int ce0), .val (.int ce1), .val (.int ce2), .val (.int ce3), .unset, .unset] [(.ref b17)]))
    refine oT (fun _ u => XS.dup X17.here hx rfl (hb hby at_36) rfl rfl u) ?_
    refine oT (fun _ u => XS.iload X17.here hx rfl (hb hby at_37) rfl u) ?_
    refine oT (fun _ u => XS.iload X17.here hx rfl (hb hby at_39) rfl u) ?_
    refine oT (fun _ u => XS.iload X17.here hx rfl (hb hby at_41) rfl u) ?_
    refine oT (fun _ u => XS.iload X17.here hx rfl (hb hby at_43) rfl u) ?_
    refine oT (fun _ u => XS.iload X17.here hx rfl (hb hby at_45) rfl u) ?_
    show oE _ _ _ _ (T17.setTop (mkF m 47 #[.val (.int z0), .val (.int z1), .val (.int z2), .val (.int z3), .val (.int z4), .val (.int 2), .val (.int ce0), .val (.int ce1), .val (.int ce2), .val (.int ce3), .unset, .unset] [(.int ce3), (.int ce2), (.int ce1), (.int ce0), (.int 2), (.ref b17), (.ref b17)]))
    obtain ⟨_, _, ⟨T18, L18, k18, n18⟩, -, X18, ⟨Lc18, hQ18, l18, y18, z18⟩, st18⟩ := Jvm.LawKit.callS X17 hx (y := oM1) hown (mvT hZ (ow10 hw)) (mvT hZ (ow11 hw)) (mvT hZ (ow3 hw)) (mvT hZ (ow12 hw)) (by decide) (backOf (W := 2) (rmC2 l Z a0 hw [] ce0 ce1 ce2 ce3  h17 n0 O17 HE0 HE1 HE2 HE3) hZ (ow12 hw) (ow3 hw) (by decide) (by decide)) (g := (mkF m 47 #[.val (.int z0), .val (.int z1), .val (.int z2), .val (.int z3), .val (.int z4), .val (.int 2), .val (.int ce0), .val (.int ce1), .val (.int ce2), .val (.int ce3), .unset, .unset] [(.int ce3), (.int ce2), (.int ce1), (.int ce0), (.int 2), (.ref b17), (.ref b17)])) rfl (by rw [hml]; rfl) (argsL := [(.int (2 : Int32)), (.int ce0), (.int ce1), (.int ce2), (.int ce3)]) (rest := [(.ref b17), (.ref b17)]) (lenOf pd_18 rfl) rfl (by show 2 * 0 + _ ≤ _; exact Nat.le_of_eq rfl) (hb hby at_47) (fun _ _ => ⟨rfl, e17, (own_le rfl), (own_le rfl)⟩)
    dsimp only [Pt.U, Pt.locs, Pt.cells, Pt.slots] at X18 l18 y18 z18 st18 hQ18
    subst y18 z18
    obtain ⟨u18, ku18, rfl, g_u18, sq_u18, N18q, Oq18, Kq18, Vx18⟩ := hQ18
    have N18 := own_fr l18 N4 N18q
    have ne_b17_u18 : b17 ≠ u18 := Nat.ne_of_lt (Nat.lt_of_lt_of_le A17.lt sq_u18)
    refine oT st18 ?_
    show oE _ _ _ _ (T18.setTop (mkF m 50 #[.val (.int z0), .val (.int z1), .val (.int z2), .val (.int z3), .val (.int z4), .val (.int 2), .val (.int ce0), .val (.int ce1), .val (.int ce2), .val (.int ce3), .unset, .unset] [(.ref u18), (.ref b17), (.ref b17)]))
    obtain ⟨_, _, ⟨T19, L19, k19, n19⟩, -, X19, ⟨Lc19, hQ19, l19, y19, z19⟩, st19⟩ := X18.specialBack hx (y := oM16) rfl hown (mvT hZ (ow14 hw)) (mvT hZ (ow15 hw)) (mvT hZ (ow16 hw)) (by decide) (backOf (W := 1) (in1_2 l Z a0 hw [] b17 u18 cs_ rf_ ku18 ce0 ce1 T18.heap n0 Oq18 g_b17 (A17.keep Kq18) (Fd17_value.keep Kq18 nin0) (Fd17_coder.keep Kq18 nin0) Vx18 (Ne.symm ne_b17_u18) HS HE0 HE1) hZ (ow16 hw) (ow9 hw) (by decide) (by decide)) (g := (mkF m 50 #[.val (.int z0), .val (.int z1), .val (.int z2), .val (.int z3), .val (.int z4), .val (.int 2), .val (.int ce0), .val (.int ce1), .val (.int ce2), .val (.int ce3), .unset, .unset] [(.ref u18), (.ref b17), (.ref b17)])) rfl (by rw [hml]; rfl) (Steps.refl _) (a := b17) (argsL := [(.ref u18)]) (rest := [(.ref b17)]) (lenOf pd_19 rfl) rfl (by show 2 * 0 + _ ≤ _; exact Nat.le_of_eq rfl) (hb hby at_50) (fun _ _ => ⟨rfl, rfl, (own_le rfl), (own_le rfl)⟩)
    dsimp only [Pt.U, Pt.locs, Pt.cells, Pt.slots] at X19 l19 y19 z19 st19 hQ19
    subst y19 z19
    obtain ⟨rfl, N19q, Oq19, Kq19, HT19⟩ := hQ19
    have N19 := own_fr l19 N18 N19q
    refine own_tr st19 ?_
    show oE _ _ _ _ (T19.setTop (mkF m 53 #[.val (.int z0), .val (.int z1), .val (.int z2), .val (.int z3), .val (.int z4), .val (.int 2), .val (.int ce0), .val (.int ce1), .val (.int ce2), .val (.int ce3), .unset, .unset] [(.ref b17)]))
    refine oT (fun _ u => XS.astore X19.here hx rfl (hb hby at_53) rfl rfl (l' := #[.val (.int z0), .val (.int z1), .val (.int z2), .val (.int z3), .val (.int z4), .val (.int (2 : Int32)), .val (.int ce0), .val (.int ce1), .val (.int ce2), .val (.int ce3), .val (.ref b17), .unset]) rfl u) ?_
    refine oT (fun _ u => XS.iload X19.here hx rfl (hb hby at_55) rfl u) ?_
    refine oT (fun _ u => XS.iconst X19.here hx rfl (hb hby at_57) u) ?_
    refine oT (fun _ u => XS.icmpNo X19.here hx rfl (hb hby at_58) rfl (flt (by decide)).1 u) ?_
    show oE _ _ _ _ (T19.setTop (mkF m 61 #[.val (.int z0), .val (.int z1), .val (.int z2), .val (.int z3), .val (.int z4), .val (.int 2), .val (.int ce0), .val (.int ce1), .val (.int ce2), .val (.int ce3), .val (.ref b17), .unset] []))
    refine oT (fun _ u => XS.iload X19.here hx rfl (hb hby at_61) rfl u) ?_
    obtain ⟨_, _, ⟨T20, L20, k20, n20⟩, -, X20, ⟨Lc20, hQ20, l20, y20, z20⟩, st20⟩ := Jvm.LawKit.callS X19 hx (y := oM6) hown (mvT hZ (ow57 hw)) (mvT hZ (ow58 hw)) (mvT hZ (ow3 hw)) (mvT hZ (ow59 hw)) (by decide) (backOf (W := 0) (rmFi l Z a0 hw [] ce0  T19.heap n0 Oq19 ) hZ (ow59 hw) (ow3 hw) (by decide) (by decide)) (g := (mkF m 63 #[.val (.int z0), .val (.int z1), .val (.int z2), .val (.int z3), .val (.int z4), .val (.int 2), .val (.int ce0), .val (.int ce1), .val (.int ce2), .val (.int ce3), .val (.ref b17), .unset] [(.int ce0)])) rfl (by rw [hml]; rfl) (argsL := [(.int ce0)]) (rest := []) (lenOf pd_17 rfl) rfl (by show 2 * 0 + _ ≤ _; exact Nat.le_of_eq rfl) (hb hby at_63) (fun _ _ => ⟨rfl, rfl, (own_le rfl), (own_le rfl)⟩)
    dsimp only [Pt.U, Pt.locs, Pt.cells, Pt.slots] at X20 l20 y20 z20 st20 hQ20
    subst y20 z20
    obtain ⟨rfl, N20q, E20⟩ := hQ20
    have N20 := own_fr l20 N19 N20q
    refine oT st20 ?_
    show oE _ _ _ _ (T20.setTop (mkF m 66 #[.val (.int z0), .val (.int z1), .val (.int z2), .val (.int z3), .val (.int z4), .val (.int 2), .val (.int ce0), .val (.int ce1), .val (.int ce2), .val (.int ce3), .val (.ref b17), .unset] [(.int (own_f ce0))]))
    by_cases hc66_21 : (own_f ce0) = (0 : Int32)
    · -- pc 66: (own_f ce0) = (0 : Int32)
      refine oT (fun _ u => XS.ifYes X20.here hx rfl (pc0 := 66) (pc' := 115) rfl (hb hby at_66) rfl ((if0 _ _).trans (teq hc66_21).1) (by decide) (by decide) u) ?_
      show oE _ _ _ _ (T20.setTop (mkF m 115 #[.val (.int z0), .val (.int z1), .val (.int z2), .val (.int z3), .val (.int z4), .val (.int 2), .val (.int ce0), .val (.int ce1), .val (.int ce2), .val (.int ce3), .val (.ref b17), .unset] []))
      refine oT (fun _ u => XS.iconst X20.here hx rfl (hb hby at_115) u) ?_
      refine oT (fun _ u => XS.istore X20.here hx rfl (hb hby at_116) rfl (l' := #[.val (.int z0), .val (.int z1), .val (.int z2), .val (.int z3), .val (.int z4), .val (.int (2 : Int32)), .val (.int ce0), .val (.int ce1), .val (.int ce2), .val (.int ce3), .val (.ref b17), .val (.int (0 : Int32))]) rfl u) ?_
      refine oT (fun _ u => XS.aload X20.here hx rfl (hb hby at_118) rfl rfl u) ?_
      obtain ⟨_, _, ⟨T22, L22, k22, n22⟩, -, X22, ⟨Lc22, hQ22, l22, y22, z22⟩, st22⟩ := Jvm.LawKit.callS X20 hx (y := oM25) hown (mvT hZ (ow32 hw)) (mvT hZ (ow33 hw)) (mvT hZ (ow34 hw)) (mvT hZ (ow35 hw)) (by decide) (backOf (W := 0) (rmFD2 l Z a0 hw [] b17 cs_ rf_ ce0 ce1 T19.heap n0 Oq19 HS HT19 HE0 HE1) hZ (ow35 hw) (ow34 hw) (by decide) (by decide)) (g := (mkF m 120 #[.val (.int z0), .val (.int z1), .val (.int z2), .val (.int z3), .val (.int z4), .val (.int 2), .val (.int ce0), .val (.int ce1), .val (.int ce2), .val (.int ce3), .val (.ref b17), .val (.int 0)] [(.ref b17)])) rfl (by rw [hml]; rfl) (argsL := [(.ref b17)]) (rest := []) (lenOf pd_20 rfl) rfl (by show 2 * 0 + _ ≤ _; exact Nat.le_of_eq rfl) (hb hby at_120) (fun _ _ => ⟨rfl, E20, (own_le rfl), (own_le rfl)⟩)
      dsimp only [Pt.U, Pt.locs, Pt.cells, Pt.slots] at X22 l22 y22 z22 st22 hQ22
      subst y22 z22
      obtain ⟨hv22, N22q, E22⟩ := hQ22
      rw [show own_all2 ce0 ce1 = 0 from by simp [own_all2, hc66_21]] at hv22
      subst hv22
      have N22 := own_fr l22 N20 N22q
      refine oT st22 ?_
      show oE _ _ _ _ (T22.setTop (mkF m 123 #[.val (.int z0), .val (.int z1), .val (.int z2), .val (.int z3), .val (.int z4), .val (.int 2), .val (.int ce0), .val (.int ce1), .val (.int ce2), .val (.int ce3), .val (.ref b17), .val (.int 0)] [(.int 0)]))
      refine oT (fun _ u => XS.iload X22.here hx rfl (hb hby at_123) rfl u) ?_
      refine oT (fun _ u => XS.icmpNo X22.here hx rfl (hb hby at_125) rfl (teq (by decide)).2 u) ?_
      show oE _ _ _ _ (T22.setTop (mkF m 128 #[.val (.int z0), .val (.int z1), .val (.int z2), .val (.int z3), .val (.int z4), .val (.int 2), .val (.int ce0), .val (.int ce1), .val (.int ce2), .val (.int ce3), .val (.ref b17), .val (.int 0)] []))
      refine oT (fun _ u => XS.iconst X22.here hx rfl (hb hby at_128) u) ?_
      refine oT (fun _ u => XS.goto X22.here hx rfl (pc0 := 129) (pc' := 133) rfl (hb hby at_129) (by decide) (by decide) u) ?_
      refine own_leaveW X22 hS0 (by rw [E22]; exact (Nat.le_trans (Nat.le_trans (Nat.le_trans (Nat.zero_le _) E17.1) Kq18.1) Kq19.1)) (v := some (.int (1 : Int32))) (fun h => by rw [Bd.returns] at h; cases h) ?_ (by decide) (by decide) (fun fs hr => retN X22 hx (t := .boolean) Bd.returns (by simp) (hb hby at_133) hr)
      show Q_rm0 Z z0 z1 z2 z3 z4 cs_ rf_ h0 n0 _ T22.heap _
      rw [E22]
      exact ⟨rfl, N22⟩
    · -- pc 66: not (own_f ce0) = (0 : Int32)
      refine oT (fun _ u => XS.ifNo X20.here hx rfl (hb hby at_66) rfl ((if0 _ _).trans (feq hc66_21).1) u) ?_
      show oE _ _ _ _ (T20.setTop (mkF m 69 #[.val (.int z0), .val (.int z1), .val (.int z2), .val (.int z3), .val (.int z4), .val (.int 2), .val (.int ce0), .val (.int ce1), .val (.int ce2), .val (.int ce3), .val (.ref b17), .unset] []))
      refine oT (fun _ u => XS.iload X20.here hx rfl (hb hby at_69) rfl u) ?_
      refine oT (fun _ u => XS.iconst X20.here hx rfl (hb hby at_71) u) ?_
      refine oT (fun _ u => XS.icmpNo X20.here hx rfl (hb hby at_72) rfl (flt (by decide)).1 u) ?_
      show oE _ _ _ _ (T20.setTop (mkF m 75 #[.val (.int z0), .val (.int z1), .val (.int z2), .val (.int z3), .val (.int z4), .val (.int 2), .val (.int ce0), .val (.int ce1), .val (.int ce2), .val (.int ce3), .val (.ref b17), .unset] []))
      refine oT (fun _ u => XS.iload X20.here hx rfl (hb hby at_75) rfl u) ?_
      obtain ⟨_, _, ⟨T23, L23, k23, n23⟩, -, X23, ⟨Lc23, hQ23, l23, y23, z23⟩, st23⟩ := Jvm.LawKit.callS X20 hx (y := oM6) hown (mvT hZ (ow57 hw)) (mvT hZ (ow58 hw)) (mvT hZ (ow3 hw)) (mvT hZ (ow59 hw)) (by decide) (backOf (W := 0) (rmFi l Z a0 hw [] ce1  T19.heap n0 Oq19 ) hZ (ow59 hw) (ow3 hw) (by decide) (by decide)) (g := (mkF m 77 #[.val (.int z0), .val (.int z1), .val (.int z2), .val (.int z3), .val (.int z4), .val (.int 2), .val (.int ce0), .val (.int ce1), .val (.int ce2), .val (.int ce3), .val (.ref b17), .unset] [(.int ce1)])) rfl (by rw [hml]; rfl) (argsL := [(.int ce1)]) (rest := []) (lenOf pd_17 rfl) rfl (by show 2 * 0 + _ ≤ _; exact Nat.le_of_eq rfl) (hb hby at_77) (fun _ _ => ⟨rfl, E20, (own_le rfl), (own_le rfl)⟩)
      dsimp only [Pt.U, Pt.locs, Pt.cells, Pt.slots] at X23 l23 y23 z23 st23 hQ23
      subst y23 z23
      obtain ⟨rfl, N23q, E23⟩ := hQ23
      have N23 := own_fr l23 N20 N23q
      refine oT st23 ?_
      show oE _ _ _ _ (T23.setTop (mkF m 80 #[.val (.int z0), .val (.int z1), .val (.int z2), .val (.int z3), .val (.int z4), .val (.int 2), .val (.int ce0), .val (.int ce1), .val (.int ce2), .val (.int ce3), .val (.ref b17), .unset] [(.int (own_f ce1))]))
      by_cases hc80_24 : (own_f ce1) = (0 : Int32)
      · -- pc 80: (own_f ce1) = (0 : Int32)
        refine oT (fun _ u => XS.ifYes X23.here hx rfl (pc0 := 80) (pc' := 115) rfl (hb hby at_80) rfl ((if0 _ _).trans (teq hc80_24).1) (by decide) (by decide) u) ?_
        show oE _ _ _ _ (T23.setTop (mkF m 115 #[.val (.int z0), .val (.int z1), .val (.int z2), .val (.int z3), .val (.int z4), .val (.int 2), .val (.int ce0), .val (.int ce1), .val (.int ce2), .val (.int ce3), .val (.ref b17), .unset] []))
        refine oT (fun _ u => XS.iconst X23.here hx rfl (hb hby at_115) u) ?_
        refine oT (fun _ u => XS.istore X23.here hx rfl (hb hby at_116) rfl (l' := #[.val (.int z0), .val (.int z1), .val (.int z2), .val (.int z3), .val (.int z4), .val (.int (2 : Int32)), .val (.int ce0), .val (.int ce1), .val (.int ce2), .val (.int ce3), .val (.ref b17), .val (.int (0 : Int32))]) rfl u) ?_
        refine oT (fun _ u => XS.aload X23.here hx rfl (hb hby at_118) rfl rfl u) ?_
        obtain ⟨_, _, ⟨T25, L25, k25, n25⟩, -, X25, ⟨Lc25, hQ25, l25, y25, z25⟩, st25⟩ := Jvm.LawKit.callS X23 hx (y := oM25) hown (mvT hZ (ow32 hw)) (mvT hZ (ow33 hw)) (mvT hZ (ow34 hw)) (mvT hZ (ow35 hw)) (by decide) (backOf (W := 0) (rmFD2 l Z a0 hw [] b17 cs_ rf_ ce0 ce1 T19.heap n0 Oq19 HS HT19 HE0 HE1) hZ (ow35 hw) (ow34 hw) (by decide) (by decide)) (g := (mkF m 120 #[.val (.int z0), .val (.int z1), .val (.int z2), .val (.int z3), .val (.int z4), .val (.int 2), .val (.int ce0), .val (.int ce1), .val (.int ce2), .val (.int ce3), .val (.ref b17), .val (.int 0)] [(.ref b17)])) rfl (by rw [hml]; rfl) (argsL := [(.ref b17)]) (rest := []) (lenOf pd_20 rfl) rfl (by show 2 * 0 + _ ≤ _; exact Nat.le_of_eq rfl) (hb hby at_120) (fun _ _ => ⟨rfl, E23, (own_le rfl), (own_le rfl)⟩)
        dsimp only [Pt.U, Pt.locs, Pt.cells, Pt.slots] at X25 l25 y25 z25 st25 hQ25
        subst y25 z25
        obtain ⟨hv25, N25q, E25⟩ := hQ25
        rw [show own_all2 ce0 ce1 = 0 from by simp [own_all2, hc66_21, hc80_24]] at hv25
        subst hv25
        have N25 := own_fr l25 N23 N25q
        refine oT st25 ?_
        show oE _ _ _ _ (T25.setTop (mkF m 123 #[.val (.int z0), .val (.int z1), .val (.int z2), .val (.int z3), .val (.int z4), .val (.int 2), .val (.int ce0), .val (.int ce1), .val (.int ce2), .val (.int ce3), .val (.ref b17), .val (.int 0)] [(.int 0)]))
        refine oT (fun _ u => XS.iload X25.here hx rfl (hb hby at_123) rfl u) ?_
        refine oT (fun _ u => XS.icmpNo X25.here hx rfl (hb hby at_125) rfl (teq (by decide)).2 u) ?_
        show oE _ _ _ _ (T25.setTop (mkF m 128 #[.val (.int z0), .val (.int z1), .val (.int z2), .val (.int z3), .val (.int z4), .val (.int 2), .val (.int ce0), .val (.int ce1), .val (.int ce2), .val (.int ce3), .val (.ref b17), .val (.int 0)] []))
        refine oT (fun _ u => XS.iconst X25.here hx rfl (hb hby at_128) u) ?_
        refine oT (fun _ u => XS.goto X25.here hx rfl (pc0 := 129) (pc' := 133) rfl (hb hby at_129) (by decide) (by decide) u) ?_
        refine own_leaveW X25 hS0 (by rw [E25]; exact (Nat.le_trans (Nat.le_trans (Nat.le_trans (Nat.zero_le _) E17.1) Kq18.1) Kq19.1)) (v := some (.int (1 : Int32))) (fun h => by rw [Bd.returns] at h; cases h) ?_ (by decide) (by decide) (fun fs hr => retN X25 hx (t := .boolean) Bd.returns (by simp) (hb hby at_133) hr)
        show Q_rm0 Z z0 z1 z2 z3 z4 cs_ rf_ h0 n0 _ T25.heap _
        rw [E25]
        exact ⟨rfl, N25⟩
      · -- pc 80: not (own_f ce1) = (0 : Int32)
        refine oT (fun _ u => XS.ifNo X23.here hx rfl (hb hby at_80) rfl ((if0 _ _).trans (feq hc80_24).1) u) ?_
        show oE _ _ _ _ (T23.setTop (mkF m 83 #[.val (.int z0), .val (.int z1), .val (.int z2), .val (.int z3), .val (.int z4), .val (.int 2), .val (.int ce0), .val (.int ce1), .val (.int ce2), .val (.int ce3), .val (.ref b17), .unset] []))
        refine oT (fun _ u => XS.iload X23.here hx rfl (hb hby at_83) rfl u) ?_
        refine oT (fun _ u => XS.iconst X23.here hx rfl (hb hby at_85) u) ?_
        refine oT (fun _ u => XS.icmpYes X23.here hx rfl (pc0 := 86) (pc' := 97) rfl (hb hby at_86) rfl (tlt (by decide)).1 (by decide) (by decide) u) ?_
        show oE _ _ _ _ (T23.setTop (mkF m 97 #[.val (.int z0), .val (.int z1), .val (.int z2), .val (.int z3), .val (.int z4), .val (.int 2), .val (.int ce0), .val (.int ce1), .val (.int ce2), .val (.int ce3), .val (.ref b17), .unset] []))
        refine oT (fun _ u => XS.iload X23.here hx rfl (hb hby at_97) rfl u) ?_
        refine oT (fun _ u => XS.iconst X23.here hx rfl (hb hby at_99) u) ?_
        refine oT (fun _ u => XS.icmpYes X23.here hx rfl (pc0 := 100) (pc' := 111) rfl (hb hby at_100) rfl (tlt (by decide)).1 (by decide) (by decide) u) ?_
        show oE _ _ _ _ (T23.setTop (mkF m 111 #[.val (.int z0), .val (.int z1), .val (.int z2), .val (.int z3), .val (.int z4), .val (.int 2), .val (.int ce0), .val (.int ce1), .val (.int ce2), .val (.int ce3), .val (.ref b17), .unset] []))
        refine oT (fun _ u => XS.iconst X23.here hx rfl (hb hby at_111) u) ?_
        refine oT (fun _ u => XS.goto X23.here hx rfl (pc0 := 112) (pc' := 116) rfl (hb hby at_112) (by decide) (by decide) u) ?_
        refine oT (fun _ u => XS.istore X23.here hx rfl (hb hby at_116) rfl (l' := #[.val (.int z0), .val (.int z1), .val (.int z2), .val (.int z3), .val (.int z4), .val (.int (2 : Int32)), .val (.int ce0), .val (.int ce1), .val (.int ce2), .val (.int ce3), .val (.ref b17), .val (.int (1 : Int32))]) rfl u) ?_
        refine oT (fun _ u => XS.aload X23.here hx rfl (hb hby at_118) rfl rfl u) ?_
        obtain ⟨_, _, ⟨T26, L26, k26, n26⟩, -, X26, ⟨Lc26, hQ26, l26, y26, z26⟩, st26⟩ := Jvm.LawKit.callS X23 hx (y := oM25) hown (mvT hZ (ow32 hw)) (mvT hZ (ow33 hw)) (mvT hZ (ow34 hw)) (mvT hZ (ow35 hw)) (by decide) (backOf (W := 0) (rmFD2 l Z a0 hw [] b17 cs_ rf_ ce0 ce1 T19.heap n0 Oq19 HS HT19 HE0 HE1) hZ (ow35 hw) (ow34 hw) (by decide) (by decide)) (g := (mkF m 120 #[.val (.int z0), .val (.int z1), .val (.int z2), .val (.int z3), .val (.int z4), .val (.int 2), .val (.int ce0), .val (.int ce1), .val (.int ce2), .val (.int ce3), .val (.ref b17), .val (.int 1)] [(.ref b17)])) rfl (by rw [hml]; rfl) (argsL := [(.ref b17)]) (rest := []) (lenOf pd_20 rfl) rfl (by show 2 * 0 + _ ≤ _; exact Nat.le_of_eq rfl) (hb hby at_120) (fun _ _ => ⟨rfl, E23, (own_le rfl), (own_le rfl)⟩)
        dsimp only [Pt.U, Pt.locs, Pt.cells, Pt.slots] at X26 l26 y26 z26 st26 hQ26
        subst y26 z26
        obtain ⟨hv26, N26q, E26⟩ := hQ26
        rw [show own_all2 ce0 ce1 = 1 from by simp [own_all2, hc66_21, hc80_24]] at hv26
        subst hv26
        have N26 := own_fr l26 N23 N26q
        refine oT st26 ?_
        show oE _ _ _ _ (T26.setTop (mkF m 123 #[.val (.int z0), .val (.int z1), .val (.int z2), .val (.int z3), .val (.int z4), .val (.int 2), .val (.int ce0), .val (.int ce1), .val (.int ce2), .val (.int ce3), .val (.ref b17), .val (.int 1)] [(.int 1)]))
        refine oT (fun _ u => XS.iload X26.here hx rfl (hb hby at_123) rfl u) ?_
        refine oT (fun _ u => XS.icmpNo X26.here hx rfl (hb hby at_125) rfl (teq (by decide)).2 u) ?_
        show oE _ _ _ _ (T26.setTop (mkF m 128 #[.val (.int z0), .val (.int z1), .val (.int z2), .val (.int z3), .val (.int z4), .val (.int 2), .val (.int ce0), .val (.int ce1), .val (.int ce2), .val (.int ce3), .val (.ref b17), .val (.int 1)] []))
        refine oT (fun _ u => XS.iconst X26.here hx rfl (hb hby at_128) u) ?_
        refine oT (fun _ u => XS.goto X26.here hx rfl (pc0 := 129) (pc' := 133) rfl (hb hby at_129) (by decide) (by decide) u) ?_
        refine own_leaveW X26 hS0 (by rw [E26]; exact (Nat.le_trans (Nat.le_trans (Nat.le_trans (Nat.zero_le _) E17.1) Kq18.1) Kq19.1)) (v := some (.int (1 : Int32))) (fun h => by rw [Bd.returns] at h; cases h) ?_ (by decide) (by decide) (fun fs hr => retN X26 hx (t := .boolean) Bd.returns (by simp) (hb hby at_133) hr)
        show Q_rm0 Z z0 z1 z2 z3 z4 cs_ rf_ h0 n0 _ T26.heap _
        rw [E26]
        exact ⟨rfl, N26⟩
  · skip
    show oE _ _ _ _ (T4.setTop (mkF m 33 #[.val (.int z0), .val (.int z1), .val (.int z2), .val (.int z3), .val (.int z4), .val (.int 3), .val (.int ce0), .val (.int ce1), .val (.int ce2), .val (.int ce3), .unset, .unset] []))
    obtain ⟨T27, h27, X27, e27, E27, A27, D27, U27, st27⟩ := newO X4 hx hZ hown (ow7 hw) (ow8 hw) (ow9 hw) E4 (g := (mkF m 33 #[.val (.int z0), .val (.int z1), .val (.int z2), .val (.int z3), .val (.int z4), .val (.int 3), .val (.int ce0), .val (.int ce1), .val (.int ce2), .val (.int ce3), .unset, .unset] [])) rfl (hb hby at_33) (by decide) (by decide)
    obtain ⟨b27, g27⟩ : ∃ z, z = h0.size := ⟨_, rfl⟩
    rw [← g27] at A27 D27 st27
    have g_b27 : n0 ≤ b27 := Nat.le_trans (own_old_le O0) (Nat.le_of_eq g27.symm)
    refine oT st27 ?_
    have O27 := O0.ext E27
    have Fd27_value : Fld Z h27 b27 "java/lang/String" "value" "[B" .null := D27 (Or.inr (ow26 hw)) (ty := (.array .byte)) (by decide)
    have Fd27_coder : Fld Z h27 b27 "java/lang/String" "coder" "B" (.int (0 : Int32)) := D27 (Or.inr (ow27 hw)) (ty := .byte) (by decide)
    show oE _ _ _ _ (T27.setTop (mkF m 36 #[.val (.int z0), .val (.int z1), .val (.int z2), .val (.int z3), .val (.int z4), .val (.int 3), .val (.int ce0), .val (.int ce1), .val (.int ce2), .val (.int ce3), .unset, .unset] [(.ref b27)]))
    refine oT (fun _ u => XS.dup X27.here hx rfl (hb hby at_36) rfl rfl u) ?_
    refine oT (fun _ u => XS.iload X27.here hx rfl (hb hby at_37) rfl u) ?_
    refine oT (fun _ u => XS.iload X27.here hx rfl (hb hby at_39) rfl u) ?_
    refine oT (fun _ u => XS.iload X27.here hx rfl (hb hby at_41) rfl u) ?_
    refine oT (fun _ u => XS.iload X27.here hx rfl (hb hby at_43) rfl u) ?_
    refine oT (fun _ u => XS.iload X27.here hx rfl (hb hby at_45) rfl u) ?_
    show oE _ _ _ _ (T27.setTop (mkF m 47 #[.val (.int z0), .val (.int z1), .val (.int z2), .val (.int z3), .val (.int z4), .val (.int 3), .val (.int ce0), .val (.int ce1), .val (.int ce2), .val (.int ce3), .unset, .unset] [(.int ce3), (.int ce2), (.int ce1), (.int ce0), (.int 3), (.ref b27), (.ref b27)]))
    obtain ⟨_, _, ⟨T28, L28, k28, n28⟩, -, X28, ⟨Lc28, hQ28, l28, y28, z28⟩, st28⟩ := Jvm.LawKit.callS X27 hx (y := oM1) hown (mvT hZ (ow10 hw)) (mvT hZ (ow11 hw)) (mvT hZ (ow3 hw)) (mvT hZ (ow12 hw)) (by decide) (backOf (W := 2) (rmC3 l Z a0 hw [] ce0 ce1 ce2 ce3  h27 n0 O27 HE0 HE1 HE2 HE3) hZ (ow12 hw) (ow3 hw) (by decide) (by decide)) (g := (mkF m 47 #[.val (.int z0), .val (.int z1), .val (.int z2), .val (.int z3), .val (.int z4), .val (.int 3), .val (.int ce0), .val (.int ce1), .val (.int ce2), .val (.int ce3), .unset, .unset] [(.int ce3), (.int ce2), (.int ce1), (.int ce0), (.int 3), (.ref b27), (.ref b27)])) rfl (by rw [hml]; rfl) (argsL := [(.int (3 : Int32)), (.int ce0), (.int ce1), (.int ce2), (.int ce3)]) (rest := [(.ref b27), (.ref b27)]) (lenOf pd_18 rfl) rfl (by show 2 * 0 + _ ≤ _; exact Nat.le_of_eq rfl) (hb hby at_47) (fun _ _ => ⟨rfl, e27, (own_le rfl), (own_le rfl)⟩)
    dsimp only [Pt.U, Pt.locs, Pt.cells, Pt.slots] at X28 l28 y28 z28 st28 hQ28
    subst y28 z28
    obtain ⟨u28, ku28, rfl, g_u28, sq_u28, N28q, Oq28, Kq28, Vx28⟩ := hQ28
    have N28 := own_fr l28 N4 N28q
    have ne_b27_u28 : b27 ≠ u28 := Nat.ne_of_lt (Nat.lt_of_lt_of_le A27.lt sq_u28)
    refine oT st28 ?_
    show oE _ _ _ _ (T28.setTop (mkF m 50 #[.val (.int z0), .val (.int z1), .val (.int z2), .val (.int z3), .val (.int z4), .val (.int 3), .val (.int ce0), .val (.int ce1), .val (.int ce2), .val (.int ce3), .unset, .unset] [(.ref u28), (.ref b27), (.ref b27)]))
    obtain ⟨_, _, ⟨T29, L29, k29, n29⟩, -, X29, ⟨Lc29, hQ29, l29, y29, z29⟩, st29⟩ := X28.specialBack hx (y := oM16) rfl hown (mvT hZ (ow14 hw)) (mvT hZ (ow15 hw)) (mvT hZ (ow16 hw)) (by decide) (backOf (W := 1) (in1_3 l Z a0 hw [] b27 u28 cs_ rf_ ku28 ce0 ce1 ce2 T28.heap n0 Oq28 g_b27 (A27.keep Kq28) (Fd27_value.keep Kq28 nin0) (Fd27_coder.keep Kq28 nin0) Vx28 (Ne.symm ne_b27_u28) HS HE0 HE1 HE2) hZ (ow16 hw) (ow9 hw) (by decide) (by decide)) (g := (mkF m 50 #[.val (.int z0), .val (.int z1), .val (.int z2), .val (.int z3), .val (.int z4), .val (.int 3), .val (.int ce0), .val (.int ce1), .val (.int ce2), .val (.int ce3), .unset, .unset] [(.ref u28), (.ref b27), (.ref b27)])) rfl (by rw [hml]; rfl) (Steps.refl _) (a := b27) (argsL := [(.ref u28)]) (rest := [(.ref b27)]) (lenOf pd_19 rfl) rfl (by show 2 * 0 + _ ≤ _; exact Nat.le_of_eq rfl) (hb hby at_50) (fun _ _ => ⟨rfl, rfl, (own_le rfl), (own_le rfl)⟩)
    dsimp only [Pt.U, Pt.locs, Pt.cells, Pt.slots] at X29 l29 y29 z29 st29 hQ29
    subst y29 z29
    obtain ⟨rfl, N29q, Oq29, Kq29, HT29⟩ := hQ29
    have N29 := own_fr l29 N28 N29q
    refine own_tr st29 ?_
    show oE _ _ _ _ (T29.setTop (mkF m 53 #[.val (.int z0), .val (.int z1), .val (.int z2), .val (.int z3), .val (.int z4), .val (.int 3), .val (.int ce0), .val (.int ce1), .val (.int ce2), .val (.int ce3), .unset, .unset] [(.ref b27)]))
    refine oT (fun _ u => XS.astore X29.here hx rfl (hb hby at_53) rfl rfl (l' := #[.val (.int z0), .val (.int z1), .val (.int z2), .val (.int z3), .val (.int z4), .val (.int (3 : Int32)), .val (.int ce0), .val (.int ce1), .val (.int ce2), .val (.int ce3), .val (.ref b27), .unset]) rfl u) ?_
    refine oT (fun _ u => XS.iload X29.here hx rfl (hb hby at_55) rfl u) ?_
    refine oT (fun _ u => XS.iconst X29.here hx rfl (hb hby at_57) u) ?_
    refine oT (fun _ u => XS.icmpNo X29.here hx rfl (hb hby at_58) rfl (flt (by decide)).1 u) ?_
    show oE _ _ _ _ (T29.setTop (mkF m 61 #[.val (.int z0), .val (.int z1), .val (.int z2), .val (.int z3), .val (.int z4), .val (.int 3), .val (.int ce0), .val (.int ce1), .val (.int ce2), .val (.int ce3), .val (.ref b27), .unset] []))
    refine oT (fun _ u => XS.iload X29.here hx rfl (hb hby at_61) rfl u) ?_
    obtain ⟨_, _, ⟨T30, L30, k30, n30⟩, -, X30, ⟨Lc30, hQ30, l30, y30, z30⟩, st30⟩ := Jvm.LawKit.callS X29 hx (y := oM6) hown (mvT hZ (ow57 hw)) (mvT hZ (ow58 hw)) (mvT hZ (ow3 hw)) (mvT hZ (ow59 hw)) (by decide) (backOf (W := 0) (rmFi l Z a0 hw [] ce0  T29.heap n0 Oq29 ) hZ (ow59 hw) (ow3 hw) (by decide) (by decide)) (g := (mkF m 63 #[.val (.int z0), .val (.int z1), .val (.int z2), .val (.int z3), .val (.int z4), .val (.int 3), .val (.int ce0), .val (.int ce1), .val (.int ce2), .val (.int ce3), .val (.ref b27), .unset] [(.int ce0)])) rfl (by rw [hml]; rfl) (argsL := [(.int ce0)]) (rest := []) (lenOf pd_17 rfl) rfl (by show 2 * 0 + _ ≤ _; exact Nat.le_of_eq rfl) (hb hby at_63) (fun _ _ => ⟨rfl, rfl, (own_le rfl), (own_le rfl)⟩)
    dsimp only [Pt.U, Pt.locs, Pt.cells, Pt.slots] at X30 l30 y30 z30 st30 hQ30
    subst y30 z30
    obtain ⟨rfl, N30q, E30⟩ := hQ30
    have N30 := own_fr l30 N29 N30q
    refine oT st30 ?_
    show oE _ _ _ _ (T30.setTop (mkF m 66 #[.val (.int z0), .val (.int z1), .val (.int z2), .val (.int z3), .val (.int z4), .val (.int 3), .val (.int ce0), .val (.int ce1), .val (.int ce2), .val (.int ce3), .val (.ref b27), .unset] [(.int (own_f ce0))]))
    by_cases hc66_31 : (own_f ce0) = (0 : Int32)
    · -- pc 66: (own_f ce0) = (0 : Int32)
      refine oT (fun _ u => XS.ifYes X30.here hx rfl (pc0 := 66) (pc' := 115) rfl (hb hby at_66) rfl ((if0 _ _).trans (teq hc66_31).1) (by decide) (by decide) u) ?_
      show oE _ _ _ _ (T30.setTop (mkF m 115 #[.val (.int z0), .val (.int z1), .val (.int z2), .val (.int z3), .val (.int z4), .val (.int 3), .val (.int ce0), .val (.int ce1), .val (.int ce2), .val (.int ce3), .val (.ref b27), .unset] []))
      refine oT (fun _ u => XS.iconst X30.here hx rfl (hb hby at_115) u) ?_
      refine oT (fun _ u => XS.istore X30.here hx rfl (hb hby at_116) rfl (l' := #[.val (.int z0), .val (.int z1), .val (.int z2), .val (.int z3), .val (.int z4), .val (.int (3 : Int32)), .val (.int ce0), .val (.int ce1), .val (.int ce2), .val (.int ce3), .val (.ref b27), .val (.int (0 : Int32))]) rfl u) ?_
      refine oT (fun _ u => XS.aload X30.here hx rfl (hb hby at_118) rfl rfl u) ?_
      obtain ⟨_, _, ⟨T32, L32, k32, n32⟩, -, X32, ⟨Lc32, hQ32, l32, y32, z32⟩, st32⟩ := Jvm.LawKit.callS X30 hx (y := oM25) hown (mvT hZ (ow32 hw)) (mvT hZ (ow33 hw)) (mvT hZ (ow34 hw)) (mvT hZ (ow35 hw)) (by decide) (backOf (W := 0) (rmFD3 l Z a0 hw [] b27 cs_ rf_ ce0 ce1 ce2 T29.heap n0 Oq29 HS HT29 HE0 HE1 HE2) hZ (ow35 hw) (ow34 hw) (by decide) (by decide)) (g := (mkF m 120 #[.val (.int z0), .val (.int z1), .val (.int z2), .val (.int z3), .val (.int z4), .val (.int 3), .val (.int ce0), .val (.int ce1), .val (.int ce2), .val (.int ce3), .val (.ref b27), .val (.int 0)] [(.ref b27)])) rfl (by rw [hml]; rfl) (argsL := [(.ref b27)]) (rest := []) (lenOf pd_20 rfl) rfl (by show 2 * 0 + _ ≤ _; exact Nat.le_of_eq rfl) (hb hby at_120) (fun _ _ => ⟨rfl, E30, (own_le rfl), (own_le rfl)⟩)
      dsimp only [Pt.U, Pt.locs, Pt.cells, Pt.slots] at X32 l32 y32 z32 st32 hQ32
      subst y32 z32
      obtain ⟨hv32, N32q, E32⟩ := hQ32
      rw [show own_all3 ce0 ce1 ce2 = 0 from by simp [own_all3, hc66_31]] at hv32
      subst hv32
      have N32 := own_fr l32 N30 N32q
      refine oT st32 ?_
      show oE _ _ _ _ (T32.setTop (mkF m 123 #[.val (.int z0), .val (.int z1), .val (.int z2), .val (.int z3), .val (.int z4), .val (.int 3), .val (.int ce0), .val (.int ce1), .val (.int ce2), .val (.int ce3), .val (.ref b27), .val (.int 0)] [(.int 0)]))
      refine oT (fun _ u => XS.iload X32.here hx rfl (hb hby at_123) rfl u) ?_
      refine oT (fun _ u => XS.icmpNo X32.here hx rfl (hb hby at_125) rfl (teq (by decide)).2 u) ?_
      show oE _ _ _ _ (T32.setTop (mkF m 128 #[.val (.int z0), .val (.int z1), .val (.int z2), .val (.int z3), .val (.int z4), .val (.int 3), .val (.int ce0), .val (.int ce1), .val (.int ce2), .val (.int ce3), .val (.ref b27), .val (.int 0)] []))
      refine oT (fun _ u => XS.iconst X32.here hx rfl (hb hby at_128) u) ?_
      refine oT (fun _ u => XS.goto X32.here hx rfl (pc0 := 129) (pc' := 133) rfl (hb hby at_129) (by decide) (by decide) u) ?_
      refine own_leaveW X32 hS0 (by rw [E32]; exact (Nat.le_trans (Nat.le_trans (Nat.le_trans (Nat.zero_le _) E27.1) Kq28.1) Kq29.1)) (v := some (.int (1 : Int32))) (fun h => by rw [Bd.returns] at h; cases h) ?_ (by decide) (by decide) (fun fs hr => retN X32 hx (t := .boolean) Bd.returns (by simp) (hb hby at_133) hr)
      show Q_rm0 Z z0 z1 z2 z3 z4 cs_ rf_ h0 n0 _ T32.heap _
      rw [E32]
      exact ⟨rfl, N32⟩
    · -- pc 66: not (own_f ce0) = (0 : Int32)
      refine oT (fun _ u => XS.ifNo X30.here hx rfl (hb hby at_66) rfl ((if0 _ _).trans (feq hc66_31).1) u) ?_
      show oE _ _ _ _ (T30.setTop (mkF m 69 #[.val (.int z0), .val (.int z1), .val (.int z2), .val (.int z3), .val (.int z4), .val (.int 3), .val (.int ce0), .val (.int ce1), .val (.int ce2), .val (.int ce3), .val (.ref b27), .unset] []))
      refine oT (fun _ u => XS.iload X30.here hx rfl (hb hby at_69) rfl u) ?_
      refine oT (fun _ u => XS.iconst X30.here hx rfl (hb hby at_71) u) ?_
      refine oT (fun _ u => XS.icmpNo X30.here hx rfl (hb hby at_72) rfl (flt (by decide)).1 u) ?_
      show oE _ _ _ _ (T30.setTop (mkF m 75 #[.val (.int z0), .val (.int z1), .val (.int z2), .val (.int z3), .val (.int z4), .val (.int 3), .val (.int ce0), .val (.int ce1), .val (.int ce2), .val (.int ce3), .val (.ref b27), .unset] []))
      refine oT (fun _ u => XS.iload X30.here hx rfl (hb hby at_75) rfl u) ?_
      obtain ⟨_, _, ⟨T33, L33, k33, n33⟩, -, X33, ⟨Lc33, hQ33, l33, y33, z33⟩, st33⟩ := Jvm.LawKit.callS X30 hx (y := oM6) hown (mvT hZ (ow57 hw)) (mvT hZ (ow58 hw)) (mvT hZ (ow3 hw)) (mvT hZ (ow59 hw)) (by decide) (backOf (W := 0) (rmFi l Z a0 hw [] ce1  T29.heap n0 Oq29 ) hZ (ow59 hw) (ow3 hw) (by decide) (by decide)) (g := (mkF m 77 #[.val (.int z0), .val (.int z1), .val (.int z2), .val (.int z3), .val (.int z4), .val (.int 3), .val (.int ce0), .val (.int ce1), .val (.int ce2), .val (.int ce3), .val (.ref b27), .unset] [(.int ce1)])) rfl (by rw [hml]; rfl) (argsL := [(.int ce1)]) (rest := []) (lenOf pd_17 rfl) rfl (by show 2 * 0 + _ ≤ _; exact Nat.le_of_eq rfl) (hb hby at_77) (fun _ _ => ⟨rfl, E30, (own_le rfl), (own_le rfl)⟩)
      dsimp only [Pt.U, Pt.locs, Pt.cells, Pt.slots] at X33 l33 y33 z33 st33 hQ33
      subst y33 z33
      obtain ⟨rfl, N33q, E33⟩ := hQ33
      have N33 := own_fr l33 N30 N33q
      refine oT st33 ?_
      show oE _ _ _ _ (T33.setTop (mkF m 80 #[.val (.int z0), .val (.int z1), .val (.int z2), .val (.int z3), .val (.int z4), .val (.int 3), .val (.int ce0), .val (.int ce1), .val (.int ce2), .val (.int ce3), .val (.ref b27), .unset] [(.int (own_f ce1))]))
      by_cases hc80_34 : (own_f ce1) = (0 : Int32)
      · -- pc 80: (own_f ce1) = (0 : Int32)
        refine oT (fun _ u => XS.ifYes X33.here hx rfl (pc0 := 80) (pc' := 115) rfl (hb hby at_80) rfl ((if0 _ _).trans (teq hc80_34).1) (by decide) (by decide) u) ?_
        show oE _ _ _ _ (T33.setTop (mkF m 115 #[.val (.int z0), .val (.int z1), .val (.int z2), .val (.int z3), .val (.int z4), .val (.int 3), .val (.int ce0), .val (.int ce1), .val (.int ce2), .val (.int ce3), .val (.ref b27), .unset] []))
        refine oT (fun _ u => XS.iconst X33.here hx rfl (hb hby at_115) u) ?_
        refine oT (fun _ u => XS.istore X33.here hx rfl (hb hby at_116) rfl (l' := #[.val (.int z0), .val (.int z1), .val (.int z2), .val (.int z3), .val (.int z4), .val (.int (3 : Int32)), .val (.int ce0), .val (.int ce1), .val (.int ce2), .val (.int ce3), .val (.ref b27), .val (.int (0 : Int32))]) rfl u) ?_
        refine oT (fun _ u => XS.aload X33.here hx rfl (hb hby at_118) rfl rfl u) ?_
        obtain ⟨_, _, ⟨T35, L35, k35, n35⟩, -, X35, ⟨Lc35, hQ35, l35, y35, z35⟩, st35⟩ := Jvm.LawKit.callS X33 hx (y := oM25) hown (mvT hZ (ow32 hw)) (mvT hZ (ow33 hw)) (mvT hZ (ow34 hw)) (mvT hZ (ow35 hw)) (by decide) (backOf (W := 0) (rmFD3 l Z a0 hw [] b27 cs_ rf_ ce0 ce1 ce2 T29.heap n0 Oq29 HS HT29 HE0 HE1 HE2) hZ (ow35 hw) (ow34 hw) (by decide) (by decide)) (g := (mkF m 120 #[.val (.int z0), .val (.int z1), .val (.int z2), .val (.int z3), .val (.int z4), .val (.int 3), .val (.int ce0), .val (.int ce1), .val (.int ce2), .val (.int ce3), .val (.ref b27), .val (.int 0)] [(.ref b27)])) rfl (by rw [hml]; rfl) (argsL := [(.ref b27)]) (rest := []) (lenOf pd_20 rfl) rfl (by show 2 * 0 + _ ≤ _; exact Nat.le_of_eq rfl) (hb hby at_120) (fun _ _ => ⟨rfl, E33, (own_le rfl), (own_le rfl)⟩)
        dsimp only [Pt.U, Pt.locs, Pt.cells, Pt.slots] at X35 l35 y35 z35 st35 hQ35
        subst y35 z35
        obtain ⟨hv35, N35q, E35⟩ := hQ35
        rw [show own_all3 ce0 ce1 ce2 = 0 from by simp [own_all3, hc66_31, hc80_34]] at hv35
        subst hv35
        have N35 := own_fr l35 N33 N35q
        refine oT st35 ?_
        show oE _ _ _ _ (T35.setTop (mkF m 123 #[.val (.int z0), .val (.int z1), .val (.int z2), .val (.int z3), .val (.int z4), .val (.int 3), .val (.int ce0), .val (.int ce1), .val (.int ce2), .val (.int ce3), .val (.ref b27), .val (.int 0)] [(.int 0)]))
        refine oT (fun _ u => XS.iload X35.here hx rfl (hb hby at_123) rfl u) ?_
        refine oT (fun _ u => XS.icmpNo X35.here hx rfl (hb hby at_125) rfl (teq (by decide)).2 u) ?_
        show oE _ _ _ _ (T35.setTop (mkF m 128 #[.val (.int z0), .val (.int z1), .val (.int z2), .val (.int z3), .val (.int z4), .val (.int 3), .val (.int ce0), .val (.int ce1), .val (.int ce2), .val (.int ce3), .val (.ref b27), .val (.int 0)] []))
        refine oT (fun _ u => XS.iconst X35.here hx rfl (hb hby at_128) u) ?_
        refine oT (fun _ u => XS.goto X35.here hx rfl (pc0 := 129) (pc' := 133) rfl (hb hby at_129) (by decide) (by decide) u) ?_
        refine own_leaveW X35 hS0 (by rw [E35]; exact (Nat.le_trans (Nat.le_trans (Nat.le_trans (Nat.zero_le _) E27.1) Kq28.1) Kq29.1)) (v := some (.int (1 : Int32))) (fun h => by rw [Bd.returns] at h; cases h) ?_ (by decide) (by decide) (fun fs hr => retN X35 hx (t := .boolean) Bd.returns (by simp) (hb hby at_133) hr)
        show Q_rm0 Z z0 z1 z2 z3 z4 cs_ rf_ h0 n0 _ T35.heap _
        rw [E35]
        exact ⟨rfl, N35⟩
      · -- pc 80: not (own_f ce1) = (0 : Int32)
        refine oT (fun _ u => XS.ifNo X33.here hx rfl (hb hby at_80) rfl ((if0 _ _).trans (feq hc80_34).1) u) ?_
        show oE _ _ _ _ (T33.setTop (mkF m 83 #[.val (.int z0), .val (.int z1), .val (.int z2), .val (.int z3), .val (.int z4), .val (.int 3), .val (.int ce0), .val (.int ce1), .val (.int ce2), .val (.int ce3), .val (.ref b27), .unset] []))
        refine oT (fun _ u => XS.iload X33.here hx rfl (hb hby at_83) rfl u) ?_
        refine oT (fun _ u => XS.iconst X33.here hx rfl (hb hby at_85) u) ?_
        refine oT (fun _ u => XS.icmpNo X33.here hx rfl (hb hby at_86) rfl (flt (by decide)).1 u) ?_
        show oE _ _ _ _ (T33.setTop (mkF m 89 #[.val (.int z0), .val (.int z1), .val (.int z2), .val (.int z3), .val (.int z4), .val (.int 3), .val (.int ce0), .val (.int ce1), .val (.int ce2), .val (.int ce3), .val (.ref b27), .unset] []))
        refine oT (fun _ u => XS.iload X33.here hx rfl (hb hby at_89) rfl u) ?_
        obtain ⟨_, _, ⟨T36, L36, k36, n36⟩, -, X36, ⟨Lc36, hQ36, l36, y36, z36⟩, st36⟩ := Jvm.LawKit.callS X33 hx (y := oM6) hown (mvT hZ (ow57 hw)) (mvT hZ (ow58 hw)) (mvT hZ (ow3 hw)) (mvT hZ (ow59 hw)) (by decide) (backOf (W := 0) (rmFi l Z a0 hw [] ce2  T29.heap n0 Oq29 ) hZ (ow59 hw) (ow3 hw) (by decide) (by decide)) (g := (mkF m 91 #[.val (.int z0), .val (.int z1), .val (.int z2), .val (.int z3), .val (.int z4), .val (.int 3), .val (.int ce0), .val (.int ce1), .val (.int ce2), .val (.int ce3), .val (.ref b27), .unset] [(.int ce2)])) rfl (by rw [hml]; rfl) (argsL := [(.int ce2)]) (rest := []) (lenOf pd_17 rfl) rfl (by show 2 * 0 + _ ≤ _; exact Nat.le_of_eq rfl) (hb hby at_91) (fun _ _ => ⟨rfl, E33, (own_le rfl), (own_le rfl)⟩)
        dsimp only [Pt.U, Pt.locs, Pt.cells, Pt.slots] at X36 l36 y36 z36 st36 hQ36
        subst y36 z36
        obtain ⟨rfl, N36q, E36⟩ := hQ36
        have N36 := own_fr l36 N33 N36q
        refine oT st36 ?_
        show oE _ _ _ _ (T36.setTop (mkF m 94 #[.val (.int z0), .val (.int z1), .val (.int z2), .val (.int z3), .val (.int z4), .val (.int 3), .val (.int ce0), .val (.int ce1), .val (.int ce2), .val (.int ce3), .val (.ref b27), .unset] [(.int (own_f ce2))]))
        by_cases hc94_37 : (own_f ce2) = (0 : Int32)
        · -- pc 94: (own_f ce2) = (0 : Int32)
          refine oT (fun _ u => XS.ifYes X36.here hx rfl (pc0 := 94) (pc' := 115) rfl (hb hby at_94) rfl ((if0 _ _).trans (teq hc94_37).1) (by decide) (by decide) u) ?_
          show oE _ _ _ _ (T36.setTop (mkF m 115 #[.val (.int z0), .val (.int z1), .val (.int z2), .val (.int z3), .val (.int z4), .val (.int 3), .val (.int ce0), .val (.int ce1), .val (.int ce2), .val (.int ce3), .val (.ref b27), .unset] []))
          refine oT (fun _ u => XS.iconst X36.here hx rfl (hb hby at_115) u) ?_
          refine oT (fun _ u => XS.istore X36.here hx rfl (hb hby at_116) rfl (l' := #[.val (.int z0), .val (.int z1), .val (.int z2), .val (.int z3), .val (.int z4), .val (.int (3 : Int32)), .val (.int ce0), .val (.int ce1), .val (.int ce2), .val (.int ce3), .val (.ref b27), .val (.int (0 : Int32))]) rfl u) ?_
          refine oT (fun _ u => XS.aload X36.here hx rfl (hb hby at_118) rfl rfl u) ?_
          obtain ⟨_, _, ⟨T38, L38, k38, n38⟩, -, X38, ⟨Lc38, hQ38, l38, y38, z38⟩, st38⟩ := Jvm.LawKit.callS X36 hx (y := oM25) hown (mvT hZ (ow32 hw)) (mvT hZ (ow33 hw)) (mvT hZ (ow34 hw)) (mvT hZ (ow35 hw)) (by decide) (backOf (W := 0) (rmFD3 l Z a0 hw [] b27 cs_ rf_ ce0 ce1 ce2 T29.heap n0 Oq29 HS HT29 HE0 HE1 HE2) hZ (ow35 hw) (ow34 hw) (by decide) (by decide)) (g := (mkF m 120 #[.val (.int z0), .val (.int z1), .val (.int z2), .val (.int z3), .val (.int z4), .val (.int 3), .val (.int ce0), .val (.int ce1), .val (.int ce2), .val (.int ce3), .val (.ref b27), .val (.int 0)] [(.ref b27)])) rfl (by rw [hml]; rfl) (argsL := [(.ref b27)]) (rest := []) (lenOf pd_20 rfl) rfl (by show 2 * 0 + _ ≤ _; exact Nat.le_of_eq rfl) (hb hby at_120) (fun _ _ => ⟨rfl, E36, (own_le rfl), (own_le rfl)⟩)
          dsimp only [Pt.U, Pt.locs, Pt.cells, Pt.slots] at X38 l38 y38 z38 st38 hQ38
          subst y38 z38
          obtain ⟨hv38, N38q, E38⟩ := hQ38
          rw [show own_all3 ce0 ce1 ce2 = 0 from by simp [own_all3, hc66_31, hc80_34, hc94_37]] at hv38
          subst hv38
          have N38 := own_fr l38 N36 N38q
          refine oT st38 ?_
          show oE _ _ _ _ (T38.setTop (mkF m 123 #[.val (.int z0), .val (.int z1), .val (.int z2), .val (.int z3), .val (.int z4), .val (.int 3), .val (.int ce0), .val (.int ce1), .val (.int ce2), .val (.int ce3), .val (.ref b27), .val (.int 0)] [(.int 0)]))
          refine oT (fun _ u => XS.iload X38.here hx rfl (hb hby at_123) rfl u) ?_
          refine oT (fun _ u => XS.icmpNo X38.here hx rfl (hb hby at_125) rfl (teq (by decide)).2 u) ?_
          show oE _ _ _ _ (T38.setTop (mkF m 128 #[.val (.int z0), .val (.int z1), .val (.int z2), .val (.int z3), .val (.int z4), .val (.int 3), .val (.int ce0), .val (.int ce1), .val (.int ce2), .val (.int ce3), .val (.ref b27), .val (.int 0)] []))
          refine oT (fun _ u => XS.iconst X38.here hx rfl (hb hby at_128) u) ?_
          refine oT (fun _ u => XS.goto X38.here hx rfl (pc0 := 129) (pc' := 133) rfl (hb hby at_129) (by decide) (by decide) u) ?_
          refine own_leaveW X38 hS0 (by rw [E38]; exact (Nat.le_trans (Nat.le_trans (Nat.le_trans (Nat.zero_le _) E27.1) Kq28.1) Kq29.1)) (v := some (.int (1 : Int32))) (fun h => by rw [Bd.returns] at h; cases h) ?_ (by decide) (by decide) (fun fs hr => retN X38 hx (t := .boolean) Bd.returns (by simp) (hb hby at_133) hr)
          show Q_rm0 Z z0 z1 z2 z3 z4 cs_ rf_ h0 n0 _ T38.heap _
          rw [E38]
          exact ⟨rfl, N38⟩
        · -- pc 94: not (own_f ce2) = (0 : Int32)
          refine oT (fun _ u => XS.ifNo X36.here hx rfl (hb hby at_94) rfl ((if0 _ _).trans (feq hc94_37).1) u) ?_
          show oE _ _ _ _ (T36.setTop (mkF m 97 #[.val (.int z0), .val (.int z1), .val (.int z2), .val (.int z3), .val (.int z4), .val (.int 3), .val (.int ce0), .val (.int ce1), .val (.int ce2), .val (.int ce3), .val (.ref b27), .unset] []))
          refine oT (fun _ u => XS.iload X36.here hx rfl (hb hby at_97) rfl u) ?_
          refine oT (fun _ u => XS.iconst X36.here hx rfl (hb hby at_99) u) ?_
          refine oT (fun _ u => XS.icmpYes X36.here hx rfl (pc0 := 100) (pc' := 111) rfl (hb hby at_100) rfl (tlt (by decide)).1 (by decide) (by decide) u) ?_
          show oE _ _ _ _ (T36.setTop (mkF m 111 #[.val (.int z0), .val (.int z1), .val (.int z2), .val (.int z3), .val (.int z4), .val (.int 3), .val (.int ce0), .val (.int ce1), .val (.int ce2), .val (.int ce3), .val (.ref b27), .unset] []))
          refine oT (fun _ u => XS.iconst X36.here hx rfl (hb hby at_111) u) ?_
          refine oT (fun _ u => XS.goto X36.here hx rfl (pc0 := 112) (pc' := 116) rfl (hb hby at_112) (by decide) (by decide) u) ?_
          refine oT (fun _ u => XS.istore X36.here hx rfl (hb hby at_116) rfl (l' := #[.val (.int z0), .val (.int z1), .val (.int z2), .val (.int z3), .val (.int z4), .val (.int (3 : Int32)), .val (.int ce0), .val (.int ce1), .val (.int ce2), .val (.int ce3), .val (.ref b27), .val (.int (1 : Int32))]) rfl u) ?_
          refine oT (fun _ u => XS.aload X36.here hx rfl (hb hby at_118) rfl rfl u) ?_
          obtain ⟨_, _, ⟨T39, L39, k39, n39⟩, -, X39, ⟨Lc39, hQ39, l39, y39, z39⟩, st39⟩ := Jvm.LawKit.callS X36 hx (y := oM25) hown (mvT hZ (ow32 hw)) (mvT hZ (ow33 hw)) (mvT hZ (ow34 hw)) (mvT hZ (ow35 hw)) (by decide) (backOf (W := 0) (rmFD3 l Z a0 hw [] b27 cs_ rf_ ce0 ce1 ce2 T29.heap n0 Oq29 HS HT29 HE0 HE1 HE2) hZ (ow35 hw) (ow34 hw) (by decide) (by decide)) (g := (mkF m 120 #[.val (.int z0), .val (.int z1), .val (.int z2), .val (.int z3), .val (.int z4), .val (.int 3), .val (.int ce0), .val (.int ce1), .val (.int ce2), .val (.int ce3), .val (.ref b27), .val (.int 1)] [(.ref b27)])) rfl (by rw [hml]; rfl) (argsL := [(.ref b27)]) (rest := []) (lenOf pd_20 rfl) rfl (by show 2 * 0 + _ ≤ _; exact Nat.le_of_eq rfl) (hb hby at_120) (fun _ _ => ⟨rfl, E36, (own_le rfl), (own_le rfl)⟩)
          dsimp only [Pt.U, Pt.locs, Pt.cells, Pt.slots] at X39 l39 y39 z39 st39 hQ39
          subst y39 z39
          obtain ⟨hv39, N39q, E39⟩ := hQ39
          rw [show own_all3 ce0 ce1 ce2 = 1 from by simp [own_all3, hc66_31, hc80_34, hc94_37]] at hv39
          subst hv39
          have N39 := own_fr l39 N36 N39q
          refine oT st39 ?_
          show oE _ _ _ _ (T39.setTop (mkF m 123 #[.val (.int z0), .val (.int z1), .val (.int z2), .val (.int z3), .val (.int z4), .val (.int 3), .val (.int ce0), .val (.int ce1), .val (.int ce2), .val (.int ce3), .val (.ref b27), .val (.int 1)] [(.int 1)]))
          refine oT (fun _ u => XS.iload X39.here hx rfl (hb hby at_123) rfl u) ?_
          refine oT (fun _ u => XS.icmpNo X39.here hx rfl (hb hby at_125) rfl (teq (by decide)).2 u) ?_
          show oE _ _ _ _ (T39.setTop (mkF m 128 #[.val (.int z0), .val (.int z1), .val (.int z2), .val (.int z3), .val (.int z4), .val (.int 3), .val (.int ce0), .val (.int ce1), .val (.int ce2), .val (.int ce3), .val (.ref b27), .val (.int 1)] []))
          refine oT (fun _ u => XS.iconst X39.here hx rfl (hb hby at_128) u) ?_
          refine oT (fun _ u => XS.goto X39.here hx rfl (pc0 := 129) (pc' := 133) rfl (hb hby at_129) (by decide) (by decide) u) ?_
          refine own_leaveW X39 hS0 (by rw [E39]; exact (Nat.le_trans (Nat.le_trans (Nat.le_trans (Nat.zero_le _) E27.1) Kq28.1) Kq29.1)) (v := some (.int (1 : Int32))) (fun h => by rw [Bd.returns] at h; cases h) ?_ (by decide) (by decide) (fun fs hr => retN X39 hx (t := .boolean) Bd.returns (by simp) (hb hby at_133) hr)
          show Q_rm0 Z z0 z1 z2 z3 z4 cs_ rf_ h0 n0 _ T39.heap _
          rw [E39]
          exact ⟨rfl, N39⟩
  · skip
    show oE _ _ _ _ (T4.setTop (mkF m 33 #[.val (.int z0), .val (.int z1), .val (.int z2), .val (.int z3), .val (.int z4), .val (.int 4), .val (.int ce0), .val (.int ce1), .val (.int ce2), .val (.int ce3), .unset, .unset] []))
    obtain ⟨T40, h40, X40, e40, E40, A40, D40, U40, st40⟩ := newO X4 hx hZ hown (ow7 hw) (ow8 hw) (ow9 hw) E4 (g := (mkF m 33 #[.val (.int z0), .val (.int z1), .val (.int z2), .val (.int z3), .val (.int z4), .val (.int 4), .val (.int ce0), .val (.int ce1), .val (.int ce2), .val (.int ce3), .unset, .unset] [])) rfl (hb hby at_33) (by decide) (by decide)
    obtain ⟨b40, g40⟩ : ∃ z, z = h0.size := ⟨_, rfl⟩
    rw [← g40] at A40 D40 st40
    have g_b40 : n0 ≤ b40 := Nat.le_trans (own_old_le O0) (Nat.le_of_eq g40.symm)
    refine oT st40 ?_
    have O40 := O0.ext E40
    have Fd40_value : Fld Z h40 b40 "java/lang/String" "value" "[B" .null := D40 (Or.inr (ow26 hw)) (ty := (.array .byte)) (by decide)
    have Fd40_coder : Fld Z h40 b40 "java/lang/String" "coder" "B" (.int (0 : Int32)) := D40 (Or.inr (ow27 hw)) (ty := .byte) (by decide)
    show oE _ _ _ _ (T40.setTop (mkF m 36 #[.val (.int z0), .val (.int z1), .val (.int z2), .val (.int z3), .val (.int z4), .val (.int 4), .val (.int ce0), .val (.int ce1), .val (.int ce2), .val (.int ce3), .unset, .unset] [(.ref b40)]))
    refine oT (fun _ u => XS.dup X40.here hx rfl (hb hby at_36) rfl rfl u) ?_
    refine oT (fun _ u => XS.iload X40.here hx rfl (hb hby at_37) rfl u) ?_
    refine oT (fun _ u => XS.iload X40.here hx rfl (hb hby at_39) rfl u) ?_
    refine oT (fun _ u => XS.iload X40.here hx rfl (hb hby at_41) rfl u) ?_
    refine oT (fun _ u => XS.iload X40.here hx rfl (hb hby at_43) rfl u) ?_
    refine oT (fun _ u => XS.iload X40.here hx rfl (hb hby at_45) rfl u) ?_
    show oE _ _ _ _ (T40.setTop (mkF m 47 #[.val (.int z0), .val (.int z1), .val (.int z2), .val (.int z3), .val (.int z4), .val (.int 4), .val (.int ce0), .val (.int ce1), .val (.int ce2), .val (.int ce3), .unset, .unset] [(.int ce3), (.int ce2), (.int ce1), (.int ce0), (.int 4), (.ref b40), (.ref b40)]))
    obtain ⟨_, _, ⟨T41, L41, k41, n41⟩, -, X41, ⟨Lc41, hQ41, l41, y41, z41⟩, st41⟩ := Jvm.LawKit.callS X40 hx (y := oM1) hown (mvT hZ (ow10 hw)) (mvT hZ (ow11 hw)) (mvT hZ (ow3 hw)) (mvT hZ (ow12 hw)) (by decide) (backOf (W := 2) (rmC4 l Z a0 hw [] ce0 ce1 ce2 ce3  h40 n0 O40 HE0 HE1 HE2 HE3) hZ (ow12 hw) (ow3 hw) (by decide) (by decide)) (g := (mkF m 47 #[.val (.int z0), .val (.int z1), .val (.int z2), .val (.int z3), .val (.int z4), .val (.int 4), .val (.int ce0), .val (.int ce1), .val (.int ce2), .val (.int ce3), .unset, .unset] [(.int ce3), (.int ce2), (.int ce1), (.int ce0), (.int 4), (.ref b40), (.ref b40)])) rfl (by rw [hml]; rfl) (argsL := [(.int (4 : Int32)), (.int ce0), (.int ce1), (.int ce2), (.int ce3)]) (rest := [(.ref b40), (.ref b40)]) (lenOf pd_18 rfl) rfl (by show 2 * 0 + _ ≤ _; exact Nat.le_of_eq rfl) (hb hby at_47) (fun _ _ => ⟨rfl, e40, (own_le rfl), (own_le rfl)⟩)
    dsimp only [Pt.U, Pt.locs, Pt.cells, Pt.slots] at X41 l41 y41 z41 st41 hQ41
    subst y41 z41
    obtain ⟨u41, ku41, rfl, g_u41, sq_u41, N41q, Oq41, Kq41, Vx41⟩ := hQ41
    have N41 := own_fr l41 N4 N41q
    have ne_b40_u41 : b40 ≠ u41 := Nat.ne_of_lt (Nat.lt_of_lt_of_le A40.lt sq_u41)
    refine oT st41 ?_
    show oE _ _ _ _ (T41.setTop (mkF m 50 #[.val (.int z0), .val (.int z1), .val (.int z2), .val (.int z3), .val (.int z4), .val (.int 4), .val (.int ce0), .val (.int ce1), .val (.int ce2), .val (.int ce3), .unset, .unset] [(.ref u41), (.ref b40), (.ref b40)]))
    obtain ⟨_, _, ⟨T42, L42, k42, n42⟩, -, X42, ⟨Lc42, hQ42, l42, y42, z42⟩, st42⟩ := X41.specialBack hx (y := oM16) rfl hown (mvT hZ (ow14 hw)) (mvT hZ (ow15 hw)) (mvT hZ (ow16 hw)) (by decide) (backOf (W := 1) (in1_4 l Z a0 hw [] b40 u41 cs_ rf_ ku41 ce0 ce1 ce2 ce3 T41.heap n0 Oq41 g_b40 (A40.keep Kq41) (Fd40_value.keep Kq41 nin0) (Fd40_coder.keep Kq41 nin0) Vx41 (Ne.symm ne_b40_u41) HS HE0 HE1 HE2 HE3) hZ (ow16 hw) (ow9 hw) (by decide) (by decide)) (g := (mkF m 50 #[.val (.int z0), .val (.int z1), .val (.int z2), .val (.int z3), .val (.int z4), .val (.int 4), .val (.int ce0), .val (.int ce1), .val (.int ce2), .val (.int ce3), .unset, .unset] [(.ref u41), (.ref b40), (.ref b40)])) rfl (by rw [hml]; rfl) (Steps.refl _) (a := b40) (argsL := [(.ref u41)]) (rest := [(.ref b40)]) (lenOf pd_19 rfl) rfl (by show 2 * 0 + _ ≤ _; exact Nat.le_of_eq rfl) (hb hby at_50) (fun _ _ => ⟨rfl, rfl, (own_le rfl), (own_le rfl)⟩)
    dsimp only [Pt.U, Pt.locs, Pt.cells, Pt.slots] at X42 l42 y42 z42 st42 hQ42
    subst y42 z42
    obtain ⟨rfl, N42q, Oq42, Kq42, HT42⟩ := hQ42
    have N42 := own_fr l42 N41 N42q
    refine own_tr st42 ?_
    show oE _ _ _ _ (T42.setTop (mkF m 53 #[.val (.int z0), .val (.int z1), .val (.int z2), .val (.int z3), .val (.int z4), .val (.int 4), .val (.int ce0), .val (.int ce1), .val (.int ce2), .val (.int ce3), .unset, .unset] [(.ref b40)]))
    refine oT (fun _ u => XS.astore X42.here hx rfl (hb hby at_53) rfl rfl (l' := #[.val (.int z0), .val (.int z1), .val (.int z2), .val (.int z3), .val (.int z4), .val (.int (4 : Int32)), .val (.int ce0), .val (.int ce1), .val (.int ce2), .val (.int ce3), .val (.ref b40), .unset]) rfl u) ?_
    refine oT (fun _ u => XS.iload X42.here hx rfl (hb hby at_55) rfl u) ?_
    refine oT (fun _ u => XS.iconst X42.here hx rfl (hb hby at_57) u) ?_
    refine oT (fun _ u => XS.icmpNo X42.here hx rfl (hb hby at_58) rfl (flt (by decide)).1 u) ?_
    show oE _ _ _ _ (T42.setTop (mkF m 61 #[.val (.int z0), .val (.int z1), .val (.int z2), .val (.int z3), .val (.int z4), .val (.int 4), .val (.int ce0), .val (.int ce1), .val (.int ce2), .val (.int ce3), .val (.ref b40), .unset] []))
    refine oT (fun _ u => XS.iload X42.here hx rfl (hb hby at_61) rfl u) ?_
    obtain ⟨_, _, ⟨T43, L43, k43, n43⟩, -, X43, ⟨Lc43, hQ43, l43, y43, z43⟩, st43⟩ := Jvm.LawKit.callS X42 hx (y := oM6) hown (mvT hZ (ow57 hw)) (mvT hZ (ow58 hw)) (mvT hZ (ow3 hw)) (mvT hZ (ow59 hw)) (by decide) (backOf (W := 0) (rmFi l Z a0 hw [] ce0  T42.heap n0 Oq42 ) hZ (ow59 hw) (ow3 hw) (by decide) (by decide)) (g := (mkF m 63 #[.val (.int z0), .val (.int z1), .val (.int z2), .val (.int z3), .val (.int z4), .val (.int 4), .val (.int ce0), .val (.int ce1), .val (.int ce2), .val (.int ce3), .val (.ref b40), .unset] [(.int ce0)])) rfl (by rw [hml]; rfl) (argsL := [(.int ce0)]) (rest := []) (lenOf pd_17 rfl) rfl (by show 2 * 0 + _ ≤ _; exact Nat.le_of_eq rfl) (hb hby at_63) (fun _ _ => ⟨rfl, rfl, (own_le rfl), (own_le rfl)⟩)
    dsimp only [Pt.U, Pt.locs, Pt.cells, Pt.slots] at X43 l43 y43 z43 st43 hQ43
    subst y43 z43
    obtain ⟨rfl, N43q, E43⟩ := hQ43
    have N43 := own_fr l43 N42 N43q
    refine oT st43 ?_
    show oE _ _ _ _ (T43.setTop (mkF m 66 #[.val (.int z0), .val (.int z1), .val (.int z2), .val (.int z3), .val (.int z4), .val (.int 4), .val (.int ce0), .val (.int ce1), .val (.int ce2), .val (.int ce3), .val (.ref b40), .unset] [(.int (own_f ce0))]))
    by_cases hc66_44 : (own_f ce0) = (0 : Int32)
    · -- pc 66: (own_f ce0) = (0 : Int32)
      refine oT (fun _ u => XS.ifYes X43.here hx rfl (pc0 := 66) (pc' := 115) rfl (hb hby at_66) rfl ((if0 _ _).trans (teq hc66_44).1) (by decide) (by decide) u) ?_
      show oE _ _ _ _ (T43.setTop (mkF m 115 #[.val (.int z0), .val (.int z1), .val (.int z2), .val (.int z3), .val (.int z4), .val (.int 4), .val (.int ce0), .val (.int ce1), .val (.int ce2), .val (.int ce3), .val (.ref b40), .unset] []))
      refine oT (fun _ u => XS.iconst X43.here hx rfl (hb hby at_115) u) ?_
      refine oT (fun _ u => XS.istore X43.here hx rfl (hb hby at_116) rfl (l' := #[.val (.int z0), .val (.int z1), .val (.int z2), .val (.int z3), .val (.int z4), .val (.int (4 : Int32)), .val (.int ce0), .val (.int ce1), .val (.int ce2), .val (.int ce3), .val (.ref b40), .val (.int (0 : Int32))]) rfl u) ?_
      refine oT (fun _ u => XS.aload X43.here hx rfl (hb hby at_118) rfl rfl u) ?_
      obtain ⟨_, _, ⟨T45, L45, k45, n45⟩, -, X45, ⟨Lc45, hQ45, l45, y45, z45⟩, st45⟩ := Jvm.LawKit.callS X43 hx (y := oM25) hown (mvT hZ (ow32 hw)) (mvT hZ (ow33 hw)) (mvT hZ (ow34 hw)) (mvT hZ (ow35 hw)) (by decide) (backOf (W := 0) (rmFD4 l Z a0 hw [] b40 cs_ rf_ ce0 ce1 ce2 ce3 T42.heap n0 Oq42 HS HT42 HE0 HE1 HE2 HE3) hZ (ow35 hw) (ow34 hw) (by decide) (by decide)) (g := (mkF m 120 #[.val (.int z0), .val (.int z1), .val (.int z2), .val (.int z3), .val (.int z4), .val (.int 4), .val (.int ce0), .val (.int ce1), .val (.int ce2), .val (.int ce3), .val (.ref b40), .val (.int 0)] [(.ref b40)])) rfl (by rw [hml]; rfl) (argsL := [(.ref b40)]) (rest := []) (lenOf pd_20 rfl) rfl (by show 2 * 0 + _ ≤ _; exact Nat.le_of_eq rfl) (hb hby at_120) (fun _ _ => ⟨rfl, E43, (own_le rfl), (own_le rfl)⟩)
      dsimp only [Pt.U, Pt.locs, Pt.cells, Pt.slots] at X45 l45 y45 z45 st45 hQ45
      subst y45 z45
      obtain ⟨hv45, N45q, E45⟩ := hQ45
      rw [show own_all4 ce0 ce1 ce2 ce3 = 0 from by simp [own_all4, hc66_44]] at hv45
      subst hv45
      have N45 := own_fr l45 N43 N45q
      refine oT st45 ?_
      show oE _ _ _ _ (T45.setTop (mkF m 123 #[.val (.int z0), .val (.int z1), .val (.int z2), .val (.int z3), .val (.int z4), .val (.int 4), .val (.int ce0), .val (.int ce1), .val (.int ce2), .val (.int ce3), .val (.ref b40), .val (.int 0)] [(.int 0)]))
      refine oT (fun _ u => XS.iload X45.here hx rfl (hb hby at_123) rfl u) ?_
      refine oT (fun _ u => XS.icmpNo X45.here hx rfl (hb hby at_125) rfl (teq (by decide)).2 u) ?_
      show oE _ _ _ _ (T45.setTop (mkF m 128 #[.val (.int z0), .val (.int z1), .val (.int z2), .val (.int z3), .val (.int z4), .val (.int 4), .val (.int ce0), .val (.int ce1), .val (.int ce2), .val (.int ce3), .val (.ref b40), .val (.int 0)] []))
      refine oT (fun _ u => XS.iconst X45.here hx rfl (hb hby at_128) u) ?_
      refine oT (fun _ u => XS.goto X45.here hx rfl (pc0 := 129) (pc' := 133) rfl (hb hby at_129) (by decide) (by decide) u) ?_
      refine own_leaveW X45 hS0 (by rw [E45]; exact (Nat.le_trans (Nat.le_trans (Nat.le_trans (Nat.zero_le _) E40.1) Kq41.1) Kq42.1)) (v := some (.int (1 : Int32))) (fun h => by rw [Bd.returns] at h; cases h) ?_ (by decide) (by decide) (fun fs hr => retN X45 hx (t := .boolean) Bd.returns (by simp) (hb hby at_133) hr)
      show Q_rm0 Z z0 z1 z2 z3 z4 cs_ rf_ h0 n0 _ T45.heap _
      rw [E45]
      exact ⟨rfl, N45⟩
    · -- pc 66: not (own_f ce0) = (0 : Int32)
      refine oT (fun _ u => XS.ifNo X43.here hx rfl (hb hby at_66) rfl ((if0 _ _).trans (feq hc66_44).1) u) ?_
      show oE _ _ _ _ (T43.setTop (mkF m 69 #[.val (.int z0), .val (.int z1), .val (.int z2), .val (.int z3), .val (.int z4), .val (.int 4), .val (.int ce0), .val (.int ce1), .val (.int ce2), .val (.int ce3), .val (.ref b40), .unset] []))
      refine oT (fun _ u => XS.iload X43.here hx rfl (hb hby at_69) rfl u) ?_
      refine oT (fun _ u => XS.iconst X43.here hx rfl (hb hby at_71) u) ?_
      refine oT (fun _ u => XS.icmpNo X43.here hx rfl (hb hby at_72) rfl (flt (by decide)).1 u) ?_
      show oE _ _ _ _ (T43.setTop (mkF m 75 #[.val (.int z0), .val (.int z1), .val (.int z2), .val (.int z3), .val (.int z4), .val (.int 4), .val (.int ce0), .val (.int ce1), .val (.int ce2), .val (.int ce3), .val (.ref b40), .unset] []))
      refine oT (fun _ u => XS.iload X43.here hx rfl (hb hby at_75) rfl u) ?_
      obtain ⟨_, _, ⟨T46, L46, k46, n46⟩, -, X46, ⟨Lc46, hQ46, l46, y46, z46⟩, st46⟩ := Jvm.LawKit.callS X43 hx (y := oM6) hown (mvT hZ (ow57 hw)) (mvT hZ (ow58 hw)) (mvT hZ (ow3 hw)) (mvT hZ (ow59 hw)) (by decide) (backOf (W := 0) (rmFi l Z a0 hw [] ce1  T42.heap n0 Oq42 ) hZ (ow59 hw) (ow3 hw) (by decide) (by decide)) (g := (mkF m 77 #[.val (.int z0), .val (.int z1), .val (.int z2), .val (.int z3), .val (.int z4), .val (.int 4), .val (.int ce0), .val (.int ce1), .val (.int ce2), .val (.int ce3), .val (.ref b40), .unset] [(.int ce1)])) rfl (by rw [hml]; rfl) (argsL := [(.int ce1)]) (rest := []) (lenOf pd_17 rfl) rfl (by show 2 * 0 + _ ≤ _; exact Nat.le_of_eq rfl) (hb hby at_77) (fun _ _ => ⟨rfl, E43, (own_le rfl), (own_le rfl)⟩)
      dsimp only [Pt.U, Pt.locs, Pt.cells, Pt.slots] at X46 l46 y46 z46 st46 hQ46
      subst y46 z46
      obtain ⟨rfl, N46q, E46⟩ := hQ46
      have N46 := own_fr l46 N43 N46q
      refine oT st46 ?_
      show oE _ _ _ _ (T46.setTop (mkF m 80 #[.val (.int z0), .val (.int z1), .val (.int z2), .val (.int z3), .val (.int z4), .val (.int 4), .val (.int ce0), .val (.int ce1), .val (.int ce2), .val (.int ce3), .val (.ref b40), .unset] [(.int (own_f ce1))]))
      by_cases hc80_47 : (own_f ce1) = (0 : Int32)
      · -- pc 80: (own_f ce1) = (0 : Int32)
        refine oT (fun _ u => XS.ifYes X46.here hx rfl (pc0 := 80) (pc' := 115) rfl (hb hby at_80) rfl ((if0 _ _).trans (teq hc80_47).1) (by decide) (by decide) u) ?_
        show oE _ _ _ _ (T46.setTop (mkF m 115 #[.val (.int z0), .val (.int z1), .val (.int z2), .val (.int z3), .val (.int z4), .val (.int 4), .val (.int ce0), .val (.int ce1), .val (.int ce2), .val (.int ce3), .val (.ref b40), .unset] []))
        refine oT (fun _ u => XS.iconst X46.here hx rfl (hb hby at_115) u) ?_
        refine oT (fun _ u => XS.istore X46.here hx rfl (hb hby at_116) rfl (l' := #[.val (.int z0), .val (.int z1), .val (.int z2), .val (.int z3), .val (.int z4), .val (.int (4 : Int32)), .val (.int ce0), .val (.int ce1), .val (.int ce2), .val (.int ce3), .val (.ref b40), .val (.int (0 : Int32))]) rfl u) ?_
        refine oT (fun _ u => XS.aload X46.here hx rfl (hb hby at_118) rfl rfl u) ?_
        obtain ⟨_, _, ⟨T48, L48, k48, n48⟩, -, X48, ⟨Lc48, hQ48, l48, y48, z48⟩, st48⟩ := Jvm.LawKit.callS X46 hx (y := oM25) hown (mvT hZ (ow32 hw)) (mvT hZ (ow33 hw)) (mvT hZ (ow34 hw)) (mvT hZ (ow35 hw)) (by decide) (backOf (W := 0) (rmFD4 l Z a0 hw [] b40 cs_ rf_ ce0 ce1 ce2 ce3 T42.heap n0 Oq42 HS HT42 HE0 HE1 HE2 HE3) hZ (ow35 hw) (ow34 hw) (by decide) (by decide)) (g := (mkF m 120 #[.val (.int z0), .val (.int z1), .val (.int z2), .val (.int z3), .val (.int z4), .val (.int 4), .val (.int ce0), .val (.int ce1), .val (.int ce2), .val (.int ce3), .val (.ref b40), .val (.int 0)] [(.ref b40)])) rfl (by rw [hml]; rfl) (argsL := [(.ref b40)]) (rest := []) (lenOf pd_20 rfl) rfl (by show 2 * 0 + _ ≤ _; exact Nat.le_of_eq rfl) (hb hby at_120) (fun _ _ => ⟨rfl, E46, (own_le rfl), (own_le rfl)⟩)
        dsimp only [Pt.U, Pt.locs, Pt.cells, Pt.slots] at X48 l48 y48 z48 st48 hQ48
        subst y48 z48
        obtain ⟨hv48, N48q, E48⟩ := hQ48
        rw [show own_all4 ce0 ce1 ce2 ce3 = 0 from by simp [own_all4, hc66_44, hc80_47]] at hv48
        subst hv48
        have N48 := own_fr l48 N46 N48q
        refine oT st48 ?_
        show oE _ _ _ _ (T48.setTop (mkF m 123 #[.val (.int z0), .val (.int z1), .val (.int z2), .val (.int z3), .val (.int z4), .val (.int 4), .val (.int ce0), .val (.int ce1), .val (.int ce2), .val (.int ce3), .val (.ref b40), .val (.int 0)] [(.int 0)]))
        refine oT (fun _ u => XS.iload X48.here hx rfl (hb hby at_123) rfl u) ?_
        refine oT (fun _ u => XS.icmpNo X48.here hx rfl (hb hby at_125) rfl (teq (by decide)).2 u) ?_
        show oE _ _ _ _ (T48.setTop (mkF m 128 #[.val (.int z0), .val (.int z1), .val (.int z2), .val (.int z3), .val (.int z4), .val (.int 4), .val (.int ce0), .val (.int ce1), .val (.int ce2), .val (.int ce3), .val (.ref b40), .val (.int 0)] []))
        refine oT (fun _ u => XS.iconst X48.here hx rfl (hb hby at_128) u) ?_
        refine oT (fun _ u => XS.goto X48.here hx rfl (pc0 := 129) (pc' := 133) rfl (hb hby at_129) (by decide) (by decide) u) ?_
        refine own_leaveW X48 hS0 (by rw [E48]; exact (Nat.le_trans (Nat.le_trans (Nat.le_trans (Nat.zero_le _) E40.1) Kq41.1) Kq42.1)) (v := some (.int (1 : Int32))) (fun h => by rw [Bd.returns] at h; cases h) ?_ (by decide) (by decide) (fun fs hr => retN X48 hx (t := .boolean) Bd.returns (by simp) (hb hby at_133) hr)
        show Q_rm0 Z z0 z1 z2 z3 z4 cs_ rf_ h0 n0 _ T48.heap _
        rw [E48]
        exact ⟨rfl, N48⟩
      · -- pc 80: not (own_f ce1) = (0 : Int32)
        refine oT (fun _ u => XS.ifNo X46.here hx rfl (hb hby at_80) rfl ((if0 _ _).trans (feq hc80_47).1) u) ?_
        show oE _ _ _ _ (T46.setTop (mkF m 83 #[.val (.int z0), .val (.int z1), .val (.int z2), .val (.int z3), .val (.int z4), .val (.int 4), .val (.int ce0), .val (.int ce1), .val (.int ce2), .val (.int ce3), .val (.ref b40), .unset] []))
        refine oT (fun _ u => XS.iload X46.here hx rfl (hb hby at_83) rfl u) ?_
        refine oT (fun _ u => XS.iconst X46.here hx rfl (hb hby at_85) u) ?_
        refine oT (fun _ u => XS.icmpNo X46.here hx rfl (hb hby at_86) rfl (flt (by decide)).1 u) ?_
        show oE _ _ _ _ (T46.setTop (mkF m 89 #[.val (.int z0), .val (.int z1), .val (.int z2), .val (.int z3), .val (.int z4), .val (.int 4), .val (.int ce0), .val (.int ce1), .val (.int ce2), .val (.int ce3), .val (.ref b40), .unset] []))
        refine oT (fun _ u => XS.iload X46.here hx rfl (hb hby at_89) rfl u) ?_
        obtain ⟨_, _, ⟨T49, L49, k49, n49⟩, -, X49, ⟨Lc49, hQ49, l49, y49, z49⟩, st49⟩ := Jvm.LawKit.callS X46 hx (y := oM6) hown (mvT hZ (ow57 hw)) (mvT hZ (ow58 hw)) (mvT hZ (ow3 hw)) (mvT hZ (ow59 hw)) (by decide) (backOf (W := 0) (rmFi l Z a0 hw [] ce2  T42.heap n0 Oq42 ) hZ (ow59 hw) (ow3 hw) (by decide) (by decide)) (g := (mkF m 91 #[.val (.int z0), .val (.int z1), .val (.int z2), .val (.int z3), .val (.int z4), .val (.int 4), .val (.int ce0), .val (.int ce1), .val (.int ce2), .val (.int ce3), .val (.ref b40), .unset] [(.int ce2)])) rfl (by rw [hml]; rfl) (argsL := [(.int ce2)]) (rest := []) (lenOf pd_17 rfl) rfl (by show 2 * 0 + _ ≤ _; exact Nat.le_of_eq rfl) (hb hby at_91) (fun _ _ => ⟨rfl, E46, (own_le rfl), (own_le rfl)⟩)
        dsimp only [Pt.U, Pt.locs, Pt.cells, Pt.slots] at X49 l49 y49 z49 st49 hQ49
        subst y49 z49
        obtain ⟨rfl, N49q, E49⟩ := hQ49
        have N49 := own_fr l49 N46 N49q
        refine oT st49 ?_
        show oE _ _ _ _ (T49.setTop (mkF m 94 #[.val (.int z0), .val (.int z1), .val (.int z2), .val (.int z3), .val (.int z4), .val (.int 4), .val (.int ce0), .val (.int ce1), .val (.int ce2), .val (.int ce3), .val (.ref b40), .unset] [(.int (own_f ce2))]))
        by_cases hc94_50 : (own_f ce2) = (0 : Int32)
        · -- pc 94: (own_f ce2) = (0 : Int32)
          refine oT (fun _ u => XS.ifYes X49.here hx rfl (pc0 := 94) (pc' := 115) rfl (hb hby at_94) rfl ((if0 _ _).trans (teq hc94_50).1) (by decide) (by decide) u) ?_
          show oE _ _ _ _ (T49.setTop (mkF m 115 #[.val (.int z0), .val (.int z1), .val (.int z2), .val (.int z3), .val (.int z4), .val (.int 4), .val (.int ce0), .val (.int ce1), .val (.int ce2), .val (.int ce3), .val (.ref b40), .unset] []))
          refine oT (fun _ u => XS.iconst X49.here hx rfl (hb hby at_115) u) ?_
          refine oT (fun _ u => XS.istore X49.here hx rfl (hb hby at_116) rfl (l' := #[.val (.int z0), .val (.int z1), .val (.int z2), .val (.int z3), .val (.int z4), .val (.int (4 : Int32)), .val (.int ce0), .val (.int ce1), .val (.int ce2), .val (.int ce3), .val (.ref b40), .val (.int (0 : Int32))]) rfl u) ?_
          refine oT (fun _ u => XS.aload X49.here hx rfl (hb hby at_118) rfl rfl u) ?_
          obtain ⟨_, _, ⟨T51, L51, k51, n51⟩, -, X51, ⟨Lc51, hQ51, l51, y51, z51⟩, st51⟩ := Jvm.LawKit.callS X49 hx (y := oM25) hown (mvT hZ (ow32 hw)) (mvT hZ (ow33 hw)) (mvT hZ (ow34 hw)) (mvT hZ (ow35 hw)) (by decide) (backOf (W := 0) (rmFD4 l Z a0 hw [] b40 cs_ rf_ ce0 ce1 ce2 ce3 T42.heap n0 Oq42 HS HT42 HE0 HE1 HE2 HE3) hZ (ow35 hw) (ow34 hw) (by decide) (by decide)) (g := (mkF m 120 #[.val (.int z0), .val (.int z1), .val (.int z2), .val (.int z3), .val (.int z4), .val (.int 4), .val (.int ce0), .val (.int ce1), .val (.int ce2), .val (.int ce3), .val (.ref b40), .val (.int 0)] [(.ref b40)])) rfl (by rw [hml]; rfl) (argsL := [(.ref b40)]) (rest := []) (lenOf pd_20 rfl) rfl (by show 2 * 0 + _ ≤ _; exact Nat.le_of_eq rfl) (hb hby at_120) (fun _ _ => ⟨rfl, E49, (own_le rfl), (own_le rfl)⟩)
          dsimp only [Pt.U, Pt.locs, Pt.cells, Pt.slots] at X51 l51 y51 z51 st51 hQ51
          subst y51 z51
          obtain ⟨hv51, N51q, E51⟩ := hQ51
          rw [show own_all4 ce0 ce1 ce2 ce3 = 0 from by simp [own_all4, hc66_44, hc80_47, hc94_50]] at hv51
          subst hv51
          have N51 := own_fr l51 N49 N51q
          refine oT st51 ?_
          show oE _ _ _ _ (T51.setTop (mkF m 123 #[.val (.int z0), .val (.int z1), .val (.int z2), .val (.int z3), .val (.int z4), .val (.int 4), .val (.int ce0), .val (.int ce1), .val (.int ce2), .val (.int ce3), .val (.ref b40), .val (.int 0)] [(.int 0)]))
          refine oT (fun _ u => XS.iload X51.here hx rfl (hb hby at_123) rfl u) ?_
          refine oT (fun _ u => XS.icmpNo X51.here hx rfl (hb hby at_125) rfl (teq (by decide)).2 u) ?_
          show oE _ _ _ _ (T51.setTop (mkF m 128 #[.val (.int z0), .val (.int z1), .val (.int z2), .val (.int z3), .val (.int z4), .val (.int 4), .val (.int ce0), .val (.int ce1), .val (.int ce2), .val (.int ce3), .val (.ref b40), .val (.int 0)] []))
          refine oT (fun _ u => XS.iconst X51.here hx rfl (hb hby at_128) u) ?_
          refine oT (fun _ u => XS.goto X51.here hx rfl (pc0 := 129) (pc' := 133) rfl (hb hby at_129) (by decide) (by decide) u) ?_
          refine own_leaveW X51 hS0 (by rw [E51]; exact (Nat.le_trans (Nat.le_trans (Nat.le_trans (Nat.zero_le _) E40.1) Kq41.1) Kq42.1)) (v := some (.int (1 : Int32))) (fun h => by rw [Bd.returns] at h; cases h) ?_ (by decide) (by decide) (fun fs hr => retN X51 hx (t := .boolean) Bd.returns (by simp) (hb hby at_133) hr)
          show Q_rm0 Z z0 z1 z2 z3 z4 cs_ rf_ h0 n0 _ T51.heap _
          rw [E51]
          exact ⟨rfl, N51⟩
        · -- pc 94: not (own_f ce2) = (0 : Int32)
          refine oT (fun _ u => XS.ifNo X49.here hx rfl (hb hby at_94) rfl ((if0 _ _).trans (feq hc94_50).1) u) ?_
          show oE _ _ _ _ (T49.setTop (mkF m 97 #[.val (.int z0), .val (.int z1), .val (.int z2), .val (.int z3), .val (.int z4), .val (.int 4), .val (.int ce0), .val (.int ce1), .val (.int ce2), .val (.int ce3), .val (.ref b40), .unset] []))
          refine oT (fun _ u => XS.iload X49.here hx rfl (hb hby at_97) rfl u) ?_
          refine oT (fun _ u => XS.iconst X49.here hx rfl (hb hby at_99) u) ?_
          refine oT (fun _ u => XS.icmpNo X49.here hx rfl (hb hby at_100) rfl (flt (by decide)).1 u) ?_
          show oE _ _ _ _ (T49.setTop (mkF m 103 #[.val (.int z0), .val (.int z1), .val (.int z2), .val (.int z3), .val (.int z4), .val (.int 4), .val (.int ce0), .val (.int ce1), .val (.int ce2), .val (.int ce3), .val (.ref b40), .unset] []))
          refine oT (fun _ u => XS.iload X49.here hx rfl (hb hby at_103) rfl u) ?_
          obtain ⟨_, _, ⟨T52, L52, k52, n52⟩, -, X52, ⟨Lc52, hQ52, l52, y52, z52⟩, st52⟩ := Jvm.LawKit.callS X49 hx (y := oM6) hown (mvT hZ (ow57 hw)) (mvT hZ (ow58 hw)) (mvT hZ (ow3 hw)) (mvT hZ (ow59 hw)) (by decide) (backOf (W := 0) (rmFi l Z a0 hw [] ce3  T42.heap n0 Oq42 ) hZ (ow59 hw) (ow3 hw) (by decide) (by decide)) (g := (mkF m 105 #[.val (.int z0), .val (.int z1), .val (.int z2), .val (.int z3), .val (.int z4), .val (.int 4), .val (.int ce0), .val (.int ce1), .val (.int ce2), .val (.int ce3), .val (.ref b40), .unset] [(.int ce3)])) rfl (by rw [hml]; rfl) (argsL := [(.int ce3)]) (rest := []) (lenOf pd_17 rfl) rfl (by show 2 * 0 + _ ≤ _; exact Nat.le_of_eq rfl) (hb hby at_105) (fun _ _ => ⟨rfl, E49, (own_le rfl), (own_le rfl)⟩)
          dsimp only [Pt.U, Pt.locs, Pt.cells, Pt.slots] at X52 l52 y52 z52 st52 hQ52
          subst y52 z52
          obtain ⟨rfl, N52q, E52⟩ := hQ52
          have N52 := own_fr l52 N49 N52q
          refine oT st52 ?_
          show oE _ _ _ _ (T52.setTop (mkF m 108 #[.val (.int z0), .val (.int z1), .val (.int z2), .val (.int z3), .val (.int z4), .val (.int 4), .val (.int ce0), .val (.int ce1), .val (.int ce2), .val (.int ce3), .val (.ref b40), .unset] [(.int (own_f ce3))]))
          by_cases hc108_53 : (own_f ce3) = (0 : Int32)
          · -- pc 108: (own_f ce3) = (0 : Int32)
            refine oT (fun _ u => XS.ifYes X52.here hx rfl (pc0 := 108) (pc' := 115) rfl (hb hby at_108) rfl ((if0 _ _).trans (teq hc108_53).1) (by decide) (by decide) u) ?_
            show oE _ _ _ _ (T52.setTop (mkF m 115 #[.val (.int z0), .val (.int z1), .val (.int z2), .val (.int z3), .val (.int z4), .val (.int 4), .val (.int ce0), .val (.int ce1), .val (.int ce2), .val (.int ce3), .val (.ref b40), .unset] []))
            refine oT (fun _ u => XS.iconst X52.here hx rfl (hb hby at_115) u) ?_
            refine oT (fun _ u => XS.istore X52.here hx rfl (hb hby at_116) rfl (l' := #[.val (.int z0), .val (.int z1), .val (.int z2), .val (.int z3), .val (.int z4), .val (.int (4 : Int32)), .val (.int ce0), .val (.int ce1), .val (.int ce2), .val (.int ce3), .val (.ref b40), .val (.int (0 : Int32))]) rfl u) ?_
            refine oT (fun _ u => XS.aload X52.here hx rfl (hb hby at_118) rfl rfl u) ?_
            obtain ⟨_, _, ⟨T54, L54, k54, n54⟩, -, X54, ⟨Lc54, hQ54, l54, y54, z54⟩, st54⟩ := Jvm.LawKit.callS X52 hx (y := oM25) hown (mvT hZ (ow32 hw)) (mvT hZ (ow33 hw)) (mvT hZ (ow34 hw)) (mvT hZ (ow35 hw)) (by decide) (backOf (W := 0) (rmFD4 l Z a0 hw [] b40 cs_ rf_ ce0 ce1 ce2 ce3 T42.heap n0 Oq42 HS HT42 HE0 HE1 HE2 HE3) hZ (ow35 hw) (ow34 hw) (by decide) (by decide)) (g := (mkF m 120 #[.val (.int z0), .val (.int z1), .val (.int z2), .val (.int z3), .val (.int z4), .val (.int 4), .val (.int ce0), .val (.int ce1), .val (.int ce2), .val (.int ce3), .val (.ref b40), .val (.int 0)] [(.ref b40)])) rfl (by rw [hml]; rfl) (argsL := [(.ref b40)]) (rest := []) (lenOf pd_20 rfl) rfl (by show 2 * 0 + _ ≤ _; exact Nat.le_of_eq rfl) (hb hby at_120) (fun _ _ => ⟨rfl, E52, (own_le rfl), (own_le rfl)⟩)
            dsimp only [Pt.U, Pt.locs, Pt.cells, Pt.slots] at X54 l54 y54 z54 st54 hQ54
            subst y54 z54
            obtain ⟨hv54, N54q, E54⟩ := hQ54
            rw [show own_all4 ce0 ce1 ce2 ce3 = 0 from by simp [own_all4, hc66_44, hc80_47, hc94_50, hc108_53]] at hv54
            subst hv54
            have N54 := own_fr l54 N52 N54q
            refine oT st54 ?_
            show oE _ _ _ _ (T54.setTop (mkF m 123 #[.val (.int z0), .val (.int z1), .val (.int z2), .val (.int z3), .val (.int z4), .val (.int 4), .val (.int ce0), .val (.int ce1), .val (.int ce2), .val (.int ce3), .val (.ref b40), .val (.int 0)] [(.int 0)]))
            refine oT (fun _ u => XS.iload X54.here hx rfl (hb hby at_123) rfl u) ?_
            refine oT (fun _ u => XS.icmpNo X54.here hx rfl (hb hby at_125) rfl (teq (by decide)).2 u) ?_
            show oE _ _ _ _ (T54.setTop (mkF m 128 #[.val (.int z0), .val (.int z1), .val (.int z2), .val (.int z3), .val (.int z4), .val (.int 4), .val (.int ce0), .val (.int ce1), .val (.int ce2), .val (.int ce3), .val (.ref b40), .val (.int 0)] []))
            refine oT (fun _ u => XS.iconst X54.here hx rfl (hb hby at_128) u) ?_
            refine oT (fun _ u => XS.goto X54.here hx rfl (pc0 := 129) (pc' := 133) rfl (hb hby at_129) (by decide) (by decide) u) ?_
            refine own_leaveW X54 hS0 (by rw [E54]; exact (Nat.le_trans (Nat.le_trans (Nat.le_trans (Nat.zero_le _) E40.1) Kq41.1) Kq42.1)) (v := some (.int (1 : Int32))) (fun h => by rw [Bd.returns] at h; cases h) ?_ (by decide) (by decide) (fun fs hr => retN X54 hx (t := .boolean) Bd.returns (by simp) (hb hby at_133) hr)
            show Q_rm0 Z z0 z1 z2 z3 z4 cs_ rf_ h0 n0 _ T54.heap _
            rw [E54]
            exact ⟨rfl, N54⟩
          · -- pc 108: not (own_f ce3) = (0 : Int32)
            refine oT (fun _ u => XS.ifNo X52.here hx rfl (hb hby at_108) rfl ((if0 _ _).trans (feq hc108_53).1) u) ?_
            show oE _ _ _ _ (T52.setTop (mkF m 111 #[.val (.int z0), .val (.int z1), .val (.int z2), .val (.int z3), .val (.int z4), .val (.int 4), .val (.int ce0), .val (.int ce1), .val (.int ce2), .val (.int ce3), .val (.ref b40), .unset] []))
            refine oT (fun _ u => XS.iconst X52.here hx rfl (hb hby at_111) u) ?_
            refine oT (fun _ u => XS.goto X52.here hx rfl (pc0 := 112) (pc' := 116) rfl (hb hby at_112) (by decide) (by decide) u) ?_
            refine oT (fun _ u => XS.istore X52.here hx rfl (hb hby at_116) rfl (l' := #[.val (.int z0), .val (.int z1), .val (.int z2), .val (.int z3), .val (.int z4), .val (.int (4 : Int32)), .val (.int ce0), .val (.int ce1), .val (.int ce2), .val (.int ce3), .val (.ref b40), .val (.int (1 : Int32))]) rfl u) ?_
            refine oT (fun _ u => XS.aload X52.here hx rfl (hb hby at_118) rfl rfl u) ?_
            obtain ⟨_, _, ⟨T55, L55, k55, n55⟩, -, X55, ⟨Lc55, hQ55, l55, y55, z55⟩, st55⟩ := Jvm.LawKit.callS X52 hx (y := oM25) hown (mvT hZ (ow32 hw)) (mvT hZ (ow33 hw)) (mvT hZ (ow34 hw)) (mvT hZ (ow35 hw)) (by decide) (backOf (W := 0) (rmFD4 l Z a0 hw [] b40 cs_ rf_ ce0 ce1 ce2 ce3 T42.heap n0 Oq42 HS HT42 HE0 HE1 HE2 HE3) hZ (ow35 hw) (ow34 hw) (by decide) (by decide)) (g := (mkF m 120 #[.val (.int z0), .val (.int z1), .val (.int z2), .val (.int z3), .val (.int z4), .val (.int 4), .val (.int ce0), .val (.int ce1), .val (.int ce2), .val (.int ce3), .val (.ref b40), .val (.int 1)] [(.ref b40)])) rfl (by rw [hml]; rfl) (argsL := [(.ref b40)]) (rest := []) (lenOf pd_20 rfl) rfl (by show 2 * 0 + _ ≤ _; exact Nat.le_of_eq rfl) (hb hby at_120) (fun _ _ => ⟨rfl, E52, (own_le rfl), (own_le rfl)⟩)
            dsimp only [Pt.U, Pt.locs, Pt.cells, Pt.slots] at X55 l55 y55 z55 st55 hQ55
            subst y55 z55
            obtain ⟨hv55, N55q, E55⟩ := hQ55
            rw [show own_all4 ce0 ce1 ce2 ce3 = 1 from by simp [own_all4, hc66_44, hc80_47, hc94_50, hc108_53]] at hv55
            subst hv55
            have N55 := own_fr l55 N52 N55q
            refine oT st55 ?_
            show oE _ _ _ _ (T55.setTop (mkF m 123 #[.val (.int z0), .val (.int z1), .val (.int z2), .val (.int z3), .val (.int z4), .val (.int 4), .val (.int ce0), .val (.int ce1), .val (.int ce2), .val (.int ce3), .val (.ref b40), .val (.int 1)] [(.int 1)]))
            refine oT (fun _ u => XS.iload X55.here hx rfl (hb hby at_123) rfl u) ?_
            refine oT (fun _ u => XS.icmpNo X55.here hx rfl (hb hby at_125) rfl (teq (by decide)).2 u) ?_
            show oE _ _ _ _ (T55.setTop (mkF m 128 #[.val (.int z0), .val (.int z1), .val (.int z2), .val (.int z3), .val (.int z4), .val (.int 4), .val (.int ce0), .val (.int ce1), .val (.int ce2), .val (.int ce3), .val (.ref b40), .val (.int 1)] []))
            refine oT (fun _ u => XS.iconst X55.here hx rfl (hb hby at_128) u) ?_
            refine oT (fun _ u => XS.goto X55.here hx rfl (pc0 := 129) (pc' := 133) rfl (hb hby at_129) (by decide) (by decide) u) ?_
            refine own_leaveW X55 hS0 (by rw [E55]; exact (Nat.le_trans (Nat.le_trans (Nat.le_trans (Nat.zero_le _) E40.1) Kq41.1) Kq42.1)) (v := some (.int (1 : Int32))) (fun h => by rw [Bd.returns] at h; cases h) ?_ (by decide) (by decide) (fun fs hr => retN X55 hx (t := .boolean) Bd.returns (by simp) (hb hby at_133) hr)
            show Q_rm0 Z z0 z1 z2 z3 z4 cs_ rf_ h0 n0 _ T55.heap _
            rw [E55]
            exact ⟨rfl, N55⟩
theorem comes_1 {Post : Tables → Env → Array Value → State → Outcome → State → Prop} (hpost : ∀ tb e args s v u, (limb_1_1.after args s (.returned v) u = true ∧ limb_1_2.after args s (.returned v) u = true ∧ True) → ReturnedEndW s (.returned v) u (Jvm.fieldLocs frame_1_writes args s ++ Jvm.arrayLocs frame_1_arrays args s ++ Jvm.staticLocs frame_1_statics s) 24 1152 → Post tb e args s (.returned v) u) :
    ArmFor flags0 classFile x code maxLocals ret World_1 tables_1 room_1 Calls_1 rest_1 Pre_1 Post := by
  intro l hfl _ _ p e ha hc hk s m args below hf hA hF happ hP
  obtain ⟨hcalls, hrest, hpre⟩ := hP
  obtain ⟨-, -, -, hnamed, -, -, -, hat⟩ := (Spec.applies_iff hf).mp happ
  obtain ⟨hg, hn⟩ := and_e (Cond.before_iff.mp (show (Jvm.Cond.and given_1 narrow_1).before args s = true from hpre))
  obtain ⟨gc0, hg0⟩ := and_e hg
  obtain ⟨gc1, hg1⟩ := and_e hg0
  obtain ⟨gc2, hg2⟩ := and_e hg1
  obtain ⟨gc3, hg3⟩ := and_e hg2
  obtain ⟨gc4, hg4⟩ := and_e hg3
  have gc5 := hg4
  have nc0 := hn
  obtain ⟨w0, w1, w2, w3, w4, rfl⟩ : ∃ w0 w1 w2 w3 w4 : Value, args = #[w0, w1, w2, w3, w4] := by
    have hs : args.size = 5 := by simpa [Cond.value, given_1] using gc0
    obtain ⟨L⟩ := args
    match L, hs with
    | [w0, w1, w2, w3, w4], _ => exact ⟨w0, w1, w2, w3, w4, rfl⟩
  have hw := fun d (hd : d ∈ tables_1) => atoms_spec (ws := Jvm.Cond.code x code maxLocals ret :: tables_1) hat d (List.mem_cons_of_mem _ hd)
  have hfit : Fit s := fun {y c} hc i hi => by
    obtain ⟨ha, rfl⟩ := Array.getElem?_eq_some_iff.mp hc
    have q := List.all_eq_true.mp ((Array.all_eq_true_iff_forall_mem.mp hF) _ (Array.getElem_mem ha)) i (List.mem_range.mpr hi)
    simpa [Array.getElem?_eq_getElem hi] using q
  obtain ⟨hsets, hown0⟩ := atoms_of _ (rest_1_c_eq ▸ (show rest_1_c.before _ s = true from hrest))
  obtain ⟨i0, ei0⟩ := is_v gc1
  obtain rfl : w0 = (.int i0) := Option.some.inj ei0
  obtain ⟨i1, ei1⟩ := is_v gc2
  obtain rfl : w1 = (.int i1) := Option.some.inj ei1
  obtain ⟨i2, ei2⟩ := is_v gc3
  obtain rfl : w2 = (.int i2) := Option.some.inj ei2
  obtain ⟨i3, ei3⟩ := is_v gc4
  obtain rfl : w3 = (.int i3) := Option.some.inj ei3
  obtain ⟨i4, ei4⟩ := is_v gc5
  obtain rfl : w4 = (.int i4) := Option.some.inj ei4
  obtain ⟨cs_, ev_cs⟩ := is_v (Cond.before_iff.mp (hsets _ (List.mem_of_getElem? (i := 1) rfl)))
  have S_cs : Sta s s.heap "java/lang/String" "COMPACT_STRINGS" "Z" (.int cs_) := Sta.start ev_cs (Or.inl (hsets _ (List.mem_of_getElem? (i := 0) rfl)))
  have hcs : ¬ cs_ = (0 : Int32) := own_neqI ev_cs (Cond.before_iff.mp (hsets _ (List.mem_of_getElem? (i := 2) rfl)))
  have S_ad : Sta s s.heap "java/lang/StringUTF16" "$assertionsDisabled" "Z" (.int (1 : Int32)) := Sta.start (own_eqI (Cond.before_iff.mp (hsets _ (List.mem_of_getElem? (i := 12) rfl)))) (Or.inl (hsets _ (List.mem_of_getElem? (i := 11) rfl)))
  have S_hi : Sta s s.heap "java/lang/StringUTF16" "HI_BYTE_SHIFT" "I" (.int (0 : Int32)) := Sta.start (own_eqI (Cond.before_iff.mp (hsets _ (List.mem_of_getElem? (i := 15) rfl)))) (Or.inl (hsets _ (List.mem_of_getElem? (i := 14) rfl)))
  have S_lo : Sta s s.heap "java/lang/StringUTF16" "LO_BYTE_SHIFT" "I" (.int (8 : Int32)) := Sta.start (own_eqI (Cond.before_iff.mp (hsets _ (List.mem_of_getElem? (i := 18) rfl)))) (Or.inl (hsets _ (List.mem_of_getElem? (i := 17) rfl)))
  obtain ⟨rf_, ev_rf, hrf⟩ := isR_v (Cond.before_iff.mp (hsets _ (List.mem_of_getElem? (i := 8) rfl)))
  have S_sf : Sta s s.heap "jdk/internal/util/Preconditions" "SIOOBE_FORMATTER" "Ljava/util/function/BiFunction;" rf_ := Sta.start ev_rf (Or.inl (hsets _ (List.mem_of_getElem? (i := 7) rfl)))
  have hCH : CHv s [("java/lang/String", 7)] s.vm s.heap := CHv.start (own_ew hw) (fun q hq => hcalls.1 q hq) (hsets _ (List.mem_of_getElem? (i := 2) rfl)) (ow25 hw) (ow8 hw)
  obtain ⟨n, o, h1, h2, h3, _, L, rfl, ⟨rfl, N⟩, hq⟩ := rm0 l s _ hw tables_1 i0 i1 i2 i3 i4 cs_ rf_ s.heap s.heap.size (Old.start s) ⟨S_cs, S_sf, S_ad, S_hi, S_lo, hcs, hrf⟩ p e ha hc hk s m _ below hf ((Spec.applies_iff_loose hf).mp happ).1 ⟨rfl, State.Warmed39.refl s, rfl, hCH⟩ trivial
  refine ⟨n, _, h1, h2, h3, hpost _ _ _ _ _ _ ⟨Cond.after_iff.mpr rfl, Cond.after_iff.mpr (eq_i res_at (Term.int_eval (1)) rfl), trivial⟩ ⟨hq.1, hq.2.1, hq.2.2.1, (hq.2.2.2.sift fun y hy => Or.inr (N y hy)).mono (by decide) (by decide)⟩⟩
theorem main_1_1 : Claimed_1_1 := comes_1 fun _ _ _ _ _ _ h hF => ⟨h.1, hF⟩
theorem main_1_2 : Claimed_1_2 := comes_1 fun _ _ _ _ _ _ h hF => ⟨h.2.1, hF⟩
end Jvm.Pilot.@@N@@
namespace Jvm.Pilot.@@N@@
open Jvm Jvm.ClassFile Sem Op Lib Jvm.Free Jvm.Stand Jvm.Pilot.@@N@@.Jvm.D
/-! MADE BY PROGRAM (witnessworld.py) out of the Statement's table words and the real class files: 21 classes; the members and pool entries that the words name. The judged class is class 1, her method 1. -/
namespace start1
open Jvm.ClassFile
def u (s : String) : CpInfo := .utf8 (stringToUtf16 s)
/-- a pool by its gaps: so many unusable entries, then the entry; so many at the end -/
def gap : Nat → List CpInfo → List CpInfo
  | 0, r => r
  | n + 1, r => .unusable :: gap n r
def poolList (es : List (Nat × CpInfo)) (last : Nat) : List CpInfo := es.foldr (fun e r => gap e.1 (e.2 :: r)) (gap last [])
def pool (es : List (Nat × CpInfo)) (last : Nat) : Array CpInfo := ⟨poolList es last⟩
def fileOf (pool : Array CpInfo) (this : Nat) (attrs : Array Attribute := #[]) (ms : Array MethodInfo := #[]) (fl : Nat := 33) (sup : Nat := 0) (ifs : Array Nat := #[]) (fds : Array FieldInfo := #[]) : ClassFile where
  minorVersion := 0
  majorVersion := 65
  constantPool := pool
  accessFlags := fl
  thisClass := this
  superClass := sup
  interfaces := ifs
  fields := fds
  methods := ms
  attributes := attrs
def plain (name : String) (sup : Option ClassId) : Class where
  name := name
  kind := .ordinary
  loader := none
  accessFlags := 33
  super := sup
  interfaces := #[]
  cf := none
  fields := #[]
  methods := #[]
  instanceTypes := #[]
  staticTypes := #[]
  resolved := #[]
  callSites := []
  init := .initialized
  statics := none
  mirror := none

def pool0 : Array CpInfo := pool [(5, u "<init>"), (0, u "()V"), (1, .class_ 10), (1, u "java/lang/Object")] 113

def k0c0 : Code := { maxStack := 0, maxLocals := 1, code := object_method_1_code, exceptionTable := #[], attributes := #[] }
def k0m0 : Method := { name := "<init>", desc := "()V", sig := { parameters := [], returnType := none }, accessFlags := 1, code := some k0c0 }
/-- java/lang/Object -/
def k0 : Class := { plain "java/lang/Object" none with
  accessFlags := 33
  interfaces := #[]
  cf := some (fileOf pool0 8 #[] #[{ accessFlags := 1, nameIndex := 5, descriptorIndex := 6, attributes := #[] }] 33 0 #[] #[])
  fields := #[]
  methods := #[k0m0]
  instanceTypes := #[]
  staticTypes := #[]
  resolved := Array.replicate 124 none
  statics := none }

def pool1 : Array CpInfo := pool [(2, .class_ 4), (1, u "java/lang/Object"), (0, u "<init>"), (0, u "()V"), (0, .integer 2147483647), (0, .methodref 9 10), (0, .class_ 11), (0, .nameAndType 12 13), (0, u "com/example/quittance/quittance/apply/CashApplicationFitsDescriptionPinLaw"), (0, u "draw"), (0, u "(I)C"), (0, .class_ 15), (0, u "java/lang/String"), (0, .methodref 9 17), (0, .nameAndType 18 19), (0, u "chars"), (0, u "(ICCCC)[C"), (0, .methodref 14 21), (0, .nameAndType 5 22), (0, u "([C)V"), (0, .methodref 9 24), (0, .nameAndType 25 26), (0, u "fits"), (0, u "(C)Z"), (0, .methodref 28 29), (0, .class_ 30), (0, .nameAndType 31 32), (0, u "com/example/quittance/quittance/apply/CashApplication"), (0, u "fitsDescription"), (0, u "(Ljava/lang/String;)Z"), (0, .integer 65536), (0, .integer 65535), (2, u "law"), (0, u "(IIIII)Z")] 3

def k1m0 : Method := { name := "<init>", desc := "()V", sig := { parameters := [], returnType := none }, accessFlags := 1, code := none }
def k1c1 : Code := { maxStack := 7, maxLocals := 12, code := code, exceptionTable := #[], attributes := #[] }
def k1m1 : Method := { name := "law", desc := "(IIIII)Z", sig := { parameters := [.int, .int, .int, .int, .int], returnType := some .boolean }, accessFlags := 9, code := some k1c1 }
def k1c2 : Code := { maxStack := 2, maxLocals := 1, code := method_3_code, exceptionTable := #[], attributes := #[] }
def k1m2 : Method := { name := "draw", desc := "(I)C", sig := { parameters := [.int], returnType := some .char }, accessFlags := 10, code := some k1c2 }
def k1c3 : Code := { maxStack := 2, maxLocals := 1, code := method_4_code, exceptionTable := #[], attributes := #[] }
def k1m3 : Method := { name := "fits", desc := "(C)Z", sig := { parameters := [.char], returnType := some .boolean }, accessFlags := 10, code := some k1c3 }
def k1c4 : Code := { maxStack := 4, maxLocals := 5, code := method_5_code, exceptionTable := #[], attributes := #[] }
def k1m4 : Method := { name := "chars", desc := "(ICCCC)[C", sig := { parameters := [.int, .char, .char, .char, .char], returnType := some (.array .char) }, accessFlags := 10, code := some k1c4 }
/-- com/example/quittance/quittance/apply/CashApplicationFitsDescriptionPinLaw -/
def k1 : Class := { plain "com/example/quittance/quittance/apply/CashApplicationFitsDescriptionPinLaw" (some 0) with
  accessFlags := 49
  interfaces := #[]
  cf := some (fileOf pool1 9 #[] #[{ accessFlags := 1, nameIndex := 5, descriptorIndex := 6, attributes := #[] }, { accessFlags := 9, nameIndex := 37, descriptorIndex := 38, attributes := #[] }, { accessFlags := 10, nameIndex := 12, descriptorIndex := 13, attributes := #[] }, { accessFlags := 10, nameIndex := 25, descriptorIndex := 26, attributes := #[] }, { accessFlags := 10, nameIndex := 18, descriptorIndex := 19, attributes := #[] }] 49 2 #[] #[])
  fields := #[]
  methods := #[k1m0, k1m1, k1m2, k1m3, k1m4]
  instanceTypes := #[]
  staticTypes := #[]
  resolved := Array.replicate 42 none
  statics := none }

def pool2 : Array CpInfo := pool [(1, .class_ 2), (0, u "java/io/Serializable"), (0, .class_ 4), (0, u "java/lang/Object")] 2

/-- java/io/Serializable -/
def k2 : Class := { plain "java/io/Serializable" (some 0) with
  accessFlags := 1537
  interfaces := #[]
  cf := some (fileOf pool2 1 #[] #[] 1537 3 #[] #[])
  fields := #[]
  methods := #[]
  instanceTypes := #[]
  staticTypes := #[]
  resolved := Array.replicate 7 none
  statics := none }

def pool3 : Array CpInfo := pool [(1, .class_ 2), (0, u "java/lang/Comparable"), (0, .class_ 4), (0, u "java/lang/Object")] 7

/-- java/lang/Comparable -/
def k3 : Class := { plain "java/lang/Comparable" (some 0) with
  accessFlags := 1537
  interfaces := #[]
  cf := some (fileOf pool3 1 #[] #[] 1537 3 #[] #[])
  fields := #[]
  methods := #[]
  instanceTypes := #[]
  staticTypes := #[]
  resolved := Array.replicate 12 none
  statics := none }

def pool4 : Array CpInfo := pool [(2, .class_ 4), (1, u "java/lang/CharSequence"), (42, .class_ 48), (0, u "java/lang/CharSequence$1CodePointIterator"), (10, .class_ 60), (0, u "java/lang/CharSequence$1CharIterator"), (5, .class_ 67), (0, u "java/lang/Object")] 63

/-- java/lang/CharSequence -/
def k4 : Class := { plain "java/lang/CharSequence" (some 0) with
  accessFlags := 1537
  interfaces := #[]
  cf := some (fileOf pool4 2 #[.nestMembers #[47, 59]] #[] 1537 66 #[] #[])
  fields := #[]
  methods := #[]
  instanceTypes := #[]
  staticTypes := #[]
  resolved := Array.replicate 131 none
  statics := none }

def pool5 : Array CpInfo := pool [(1, .class_ 2), (0, u "java/lang/constant/Constable"), (0, .class_ 4), (0, u "java/lang/Object")] 6

/-- java/lang/constant/Constable -/
def k5 : Class := { plain "java/lang/constant/Constable" (some 0) with
  accessFlags := 1537
  interfaces := #[]
  cf := some (fileOf pool5 1 #[] #[] 1537 3 #[] #[])
  fields := #[]
  methods := #[]
  instanceTypes := #[]
  staticTypes := #[]
  resolved := Array.replicate 11 none
  statics := none }

def pool6 : Array CpInfo := pool [(1, .class_ 2), (0, u "java/lang/constant/ConstantDesc"), (0, .class_ 4), (0, u "java/lang/Object")] 32

/-- java/lang/constant/ConstantDesc -/
def k6 : Class := { plain "java/lang/constant/ConstantDesc" (some 0) with
  accessFlags := 1537
  interfaces := #[]
  cf := some (fileOf pool6 1 #[] #[] 1537 3 #[] #[])
  fields := #[]
  methods := #[]
  instanceTypes := #[]
  staticTypes := #[]
  resolved := Array.replicate 37 none
  statics := none }

def pool7 : Array CpInfo := pool [(1, .methodref 2 3), (0, .class_ 4), (0, .nameAndType 5 6), (0, u "java/lang/Object"), (0, u "<init>"), (0, u "()V"), (0, .string 8), (0, u ""), (0, .fieldref 10 11), (0, .class_ 12), (0, .nameAndType 13 14), (0, u "java/lang/String"), (0, u "value"), (0, u "[B"), (0, .fieldref 10 16), (0, .nameAndType 17 18), (0, u "coder"), (0, u "B"), (2, u "hash"), (0, u "I"), (2, u "hashIsZero"), (0, u "Z"), (0, .methodref 10 28), (0, .nameAndType 5 29), (0, u "([CIILjava/lang/Void;)V"), (8, .fieldref 10 39), (0, .nameAndType 40 26), (0, u "COMPACT_STRINGS"), (1, .class_ 44), (1, u "java/lang/StringUTF16"), (0, u "compress"), (1, .methodref 42 48), (0, .nameAndType 49 50), (0, u "coderFromArrayLen"), (0, u "([BI)B"), (56, .class_ 109), (1, u "java/lang/StringLatin1"), (32, u "()Z"), (34, .methodref 42 178), (0, .nameAndType 45 179), (0, u "([CII)[B"), (154, u "()I"), (0, .methodref 10 336), (0, .nameAndType 17 337), (0, u "()B"), (25, u "([BI)C"), (27, u "(II)V"), (35, u "(I)C"), (64, .methodref 10 493), (0, .nameAndType 494 142), (0, u "isLatin1"), (0, .methodref 107 496), (0, .nameAndType 497 363), (0, u "charAt"), (0, .methodref 42 496), (2, u "checkIndex"), (5, u "length"), (67, .class_ 576), (0, u "java/lang/CharSequence"), (22, u "CASE_INSENSITIVE_ORDER"), (0, u "Ljava/util/Comparator;"), (409, u "([C)V"), (42, .fieldref 1054 1055), (0, .class_ 1056), (0, .nameAndType 1057 1058), (0, u "jdk/internal/util/Preconditions"), (0, u "SIOOBE_FORMATTER"), (0, u "Ljava/util/function/BiFunction;"), (0, .methodref 1054 1060), (0, .nameAndType 501 1061), (0, u "(IILjava/util/function/BiFunction;)I"), (39, u "serialPersistentFields"), (0, u "[Ljava/io/ObjectStreamField;"), (0, .class_ 1104), (0, u "java/lang/String$CaseInsensitiveComparator"), (1, .class_ 1107), (0, u "java/io/Serializable"), (0, .class_ 1109), (0, u "java/lang/Comparable"), (0, .class_ 1111), (0, u "java/lang/constant/Constable"), (0, .class_ 1113), (0, u "java/lang/constant/ConstantDesc"), (2, u "serialVersionUID"), (0, u "J"), (3, u "REPL"), (0, u "C"), (2, u "LATIN1"), (1, u "UTF16")] 323

def k7m0 : Method := { name := "<init>", desc := "()V", sig := { parameters := [], returnType := none }, accessFlags := 1, code := none }
def k7c1 : Code := { maxStack := 5, maxLocals := 2, code := jdk_42_method_3_code, exceptionTable := #[], attributes := #[] }
def k7m1 : Method := { name := "<init>", desc := "([C)V", sig := { parameters := [(.array .char)], returnType := none }, accessFlags := 1, code := some k7c1 }
def k7c2 : Code := { maxStack := 2, maxLocals := 1, code := jdk_42_method_54_code, exceptionTable := #[], attributes := #[] }
def k7m2 : Method := { name := "length", desc := "()I", sig := { parameters := [], returnType := some .int }, accessFlags := 1, code := some k7c2 }
def k7c3 : Code := { maxStack := 2, maxLocals := 2, code := jdk_42_method_56_code, exceptionTable := #[], attributes := #[] }
def k7m3 : Method := { name := "charAt", desc := "(I)C", sig := { parameters := [.int], returnType := some .char }, accessFlags := 1, code := some k7c3 }
def k7c4 : Code := { maxStack := 4, maxLocals := 6, code := jdk_42_method_149_code, exceptionTable := #[], attributes := #[] }
def k7m4 : Method := { name := "<init>", desc := "([CIILjava/lang/Void;)V", sig := { parameters := [(.array .char), .int, .int, (.object "java/lang/Void")], returnType := none }, accessFlags := 2, code := some k7c4 }
def k7c5 : Code := { maxStack := 1, maxLocals := 1, code := jdk_42_method_152_code, exceptionTable := #[], attributes := #[] }
def k7m5 : Method := { name := "coder", desc := "()B", sig := { parameters := [], returnType := some .byte }, accessFlags := 0, code := some k7c5 }
def k7c6 : Code := { maxStack := 1, maxLocals := 1, code := jdk_42_method_154_code, exceptionTable := #[], attributes := #[] }
def k7m6 : Method := { name := "isLatin1", desc := "()Z", sig := { parameters := [], returnType := some .boolean }, accessFlags := 0, code := some k7c6 }
def k7c7 : Code := { maxStack := 3, maxLocals := 2, code := jdk_42_method_155_code, exceptionTable := #[], attributes := #[] }
def k7m7 : Method := { name := "checkIndex", desc := "(II)V", sig := { parameters := [.int, .int], returnType := none }, accessFlags := 8, code := some k7c7 }
/-- java/lang/String -/
def k7 : Class := { plain "java/lang/String" (some 0) with
  accessFlags := 49
  interfaces := #[2, 3, 4, 5, 6]
  cf := some (fileOf pool7 10 #[.nestMembers #[1103]] #[{ accessFlags := 1, nameIndex := 5, descriptorIndex := 6, attributes := #[] }, { accessFlags := 1, nameIndex := 5, descriptorIndex := 1010, attributes := #[] }, { accessFlags := 1, nameIndex := 507, descriptorIndex := 334, attributes := #[] }, { accessFlags := 1, nameIndex := 497, descriptorIndex := 427, attributes := #[] }, { accessFlags := 2, nameIndex := 5, descriptorIndex := 29, attributes := #[] }, { accessFlags := 0, nameIndex := 17, descriptorIndex := 337, attributes := #[] }, { accessFlags := 0, nameIndex := 494, descriptorIndex := 142, attributes := #[] }, { accessFlags := 8, nameIndex := 501, descriptorIndex := 391, attributes := #[] }] 49 2 #[1106, 1108, 575, 1110, 1112] #[{ accessFlags := 18, nameIndex := 13, descriptorIndex := 14, attributes := #[] }, { accessFlags := 18, nameIndex := 17, descriptorIndex := 18, attributes := #[] }, { accessFlags := 2, nameIndex := 21, descriptorIndex := 22, attributes := #[] }, { accessFlags := 2, nameIndex := 25, descriptorIndex := 26, attributes := #[] }, { accessFlags := 26, nameIndex := 1116, descriptorIndex := 1117, attributes := #[] }, { accessFlags := 24, nameIndex := 40, descriptorIndex := 26, attributes := #[] }, { accessFlags := 26, nameIndex := 1101, descriptorIndex := 1102, attributes := #[] }, { accessFlags := 26, nameIndex := 1121, descriptorIndex := 1122, attributes := #[] }, { accessFlags := 25, nameIndex := 599, descriptorIndex := 600, attributes := #[] }, { accessFlags := 24, nameIndex := 1125, descriptorIndex := 18, attributes := #[] }, { accessFlags := 24, nameIndex := 1127, descriptorIndex := 18, attributes := #[] }])
  fields := #[{ name := "value", type := (.array .byte), accessFlags := 18, slot := 0, constantValue := 0 }, { name := "coder", type := .byte, accessFlags := 18, slot := 1, constantValue := 0 }, { name := "hash", type := .int, accessFlags := 2, slot := 2, constantValue := 0 }, { name := "hashIsZero", type := .boolean, accessFlags := 2, slot := 3, constantValue := 0 }, { name := "serialVersionUID", type := .long, accessFlags := 26, slot := 0, constantValue := 0 }, { name := "COMPACT_STRINGS", type := .boolean, accessFlags := 24, slot := 1, constantValue := 0 }, { name := "serialPersistentFields", type := (.array (.object "java/io/ObjectStreamField")), accessFlags := 26, slot := 2, constantValue := 0 }, { name := "REPL", type := .char, accessFlags := 26, slot := 3, constantValue := 0 }, { name := "CASE_INSENSITIVE_ORDER", type := (.object "java/util/Comparator"), accessFlags := 25, slot := 4, constantValue := 0 }, { name := "LATIN1", type := .byte, accessFlags := 24, slot := 5, constantValue := 0 }, { name := "UTF16", type := .byte, accessFlags := 24, slot := 6, constantValue := 0 }]
  methods := #[k7m0, k7m1, k7m2, k7m3, k7m4, k7m5, k7m6, k7m7]
  instanceTypes := #[(.array .byte), .byte, .int, .boolean]
  staticTypes := #[.long, .boolean, (.array (.object "java/io/ObjectStreamField")), .char, (.object "java/util/Comparator"), .byte, .byte]
  resolved := Array.replicate 1451 none
  statics := some 0 }

def pool8 : Array CpInfo := pool [(2, .class_ 4), (1, u "java/lang/Object"), (3, .class_ 10), (1, u "com/example/quittance/quittance/apply/CashApplication"), (0, u "rates"), (0, u "Lcom/example/quittance/quittance/apply/Rates;"), (2, u "crossCurrencyRateType"), (0, u "Ljava/util/Optional;"), (2, u "unmatched"), (0, u "Lcom/example/quittance/quittance/apply/CashApplication$Unmatched;"), (5, u "()I"), (10, .class_ 38), (0, u "java/lang/String"), (38, .class_ 78), (0, u "com/example/quittance/quittance/apply/CashApplication$Refusal"), (39, .class_ 120), (1, u "com/example/quittance/quittance/apply/CashApplication$Named"), (9, .class_ 132), (1, u "com/example/quittance/quittance/apply/CashApplication$Unmatched"), (99, .class_ 233), (0, u "com/example/quittance/quittance/apply/CashApplication$Note"), (12, .class_ 247), (0, u "com/example/quittance/quittance/apply/CashApplication$Applied"), (223, .methodref 37 472), (0, .nameAndType 473 26), (0, u "length"), (0, .methodref 37 475), (0, .nameAndType 476 477), (0, u "charAt"), (0, u "(I)C"), (0, .methodref 479 480), (0, .class_ 481), (0, .nameAndType 482 483), (0, u "java/lang/Character"), (0, u "isISOControl"), (0, u "(C)Z"), (2, u "fitsDescription"), (0, u "(Ljava/lang/String;)Z")] 114

def k8c0 : Code := { maxStack := 2, maxLocals := 3, code := prog_16_method_16_code, exceptionTable := #[], attributes := #[] }
def k8m0 : Method := { name := "fitsDescription", desc := "(Ljava/lang/String;)Z", sig := { parameters := [(.object "java/lang/String")], returnType := some .boolean }, accessFlags := 9, code := some k8c0 }
/-- com/example/quittance/quittance/apply/CashApplication -/
def k8 : Class := { plain "com/example/quittance/quittance/apply/CashApplication" (some 0) with
  accessFlags := 49
  interfaces := #[]
  cf := some (fileOf pool8 8 #[.nestMembers #[118, 246, 232, 77, 130]] #[{ accessFlags := 9, nameIndex := 486, descriptorIndex := 487, attributes := #[] }] 49 2 #[] #[{ accessFlags := 18, nameIndex := 11, descriptorIndex := 12, attributes := #[] }, { accessFlags := 18, nameIndex := 15, descriptorIndex := 16, attributes := #[] }, { accessFlags := 18, nameIndex := 19, descriptorIndex := 20, attributes := #[] }])
  fields := #[{ name := "rates", type := (.object "com/example/quittance/quittance/apply/Rates"), accessFlags := 18, slot := 0, constantValue := 0 }, { name := "crossCurrencyRateType", type := (.object "java/util/Optional"), accessFlags := 18, slot := 1, constantValue := 0 }, { name := "unmatched", type := (.object "com/example/quittance/quittance/apply/CashApplication$Unmatched"), accessFlags := 18, slot := 2, constantValue := 0 }]
  methods := #[k8m0]
  instanceTypes := #[(.object "com/example/quittance/quittance/apply/Rates"), (.object "java/util/Optional"), (.object "com/example/quittance/quittance/apply/CashApplication$Unmatched")]
  staticTypes := #[]
  resolved := Array.replicate 602 none
  statics := none }

def pool9 : Array CpInfo := pool [(3, .class_ 4), (0, u "java/lang/String"), (1, .class_ 8), (1, u "java/lang/Object"), (0, u "<init>"), (0, u "()V"), (0, .methodref 12 13), (0, .class_ 14), (0, .nameAndType 15 16), (0, u "java/lang/StringUTF16"), (0, u "newBytesLength"), (0, u "(I)I"), (3, .integer 1073741823), (23, .fieldref 12 45), (0, .nameAndType 46 47), (0, u "$assertionsDisabled"), (0, u "Z"), (0, .methodref 12 49), (0, .nameAndType 50 51), (0, u "length"), (0, u "([B)I"), (7, .fieldref 12 60), (0, .nameAndType 61 62), (0, u "HI_BYTE_SHIFT"), (0, u "I"), (0, .fieldref 12 64), (0, .nameAndType 65 62), (0, u "LO_BYTE_SHIFT"), (1, .methodref 12 68), (0, .nameAndType 69 70), (0, u "checkIndex"), (0, u "(I[B)V"), (0, .methodref 12 72), (0, .nameAndType 73 74), (0, u "getChar"), (0, u "([BI)C"), (32, .methodref 12 108), (0, .nameAndType 109 110), (0, u "newBytesFor"), (0, u "(I)[B"), (0, .methodref 12 112), (0, .nameAndType 113 114), (0, u "putChar"), (0, u "([BII)V"), (0, .methodref 12 116), (0, .nameAndType 117 118), (0, u "compress"), (0, u "([CI[BII)I"), (0, .methodref 12 120), (0, .nameAndType 121 122), (0, u "toBytes"), (0, u "([CII)[B"), (138, u "coderFromArrayLen"), (0, u "([BI)B"), (106, .class_ 371), (1, u "java/lang/StringUTF16$LinesSpliterator"), (20, u "charAt"), (21, .methodref 3 415), (0, .nameAndType 69 416), (0, u "(II)V"), (13, u "MAX_LENGTH"), (196, .class_ 628), (0, u "java/lang/StringUTF16$CodePointsSpliterator"), (0, .class_ 630), (0, u "java/lang/StringUTF16$CharsSpliterator")] 4

def k9m0 : Method := { name := "<init>", desc := "()V", sig := { parameters := [], returnType := none }, accessFlags := 0, code := none }
def k9c1 : Code := { maxStack := 1, maxLocals := 1, code := jdk_52_method_2_code, exceptionTable := #[], attributes := #[] }
def k9m1 : Method := { name := "newBytesFor", desc := "(I)[B", sig := { parameters := [.int], returnType := some (.array .byte) }, accessFlags := 9, code := some k9c1 }
def k9c2 : Code := { maxStack := 4, maxLocals := 1, code := jdk_52_method_3_code, exceptionTable := #[], attributes := #[] }
def k9m2 : Method := { name := "newBytesLength", desc := "(I)I", sig := { parameters := [.int], returnType := some .int }, accessFlags := 9, code := some k9c2 }
def k9c3 : Code := { maxStack := 4, maxLocals := 3, code := jdk_52_method_4_code, exceptionTable := #[], attributes := #[] }
def k9m3 : Method := { name := "putChar", desc := "([BII)V", sig := { parameters := [(.array .byte), .int, .int], returnType := none }, accessFlags := 8, code := some k9c3 }
def k9c4 : Code := { maxStack := 3, maxLocals := 2, code := jdk_52_method_5_code, exceptionTable := #[], attributes := #[] }
def k9m4 : Method := { name := "getChar", desc := "([BI)C", sig := { parameters := [(.array .byte), .int], returnType := some .char }, accessFlags := 8, code := some k9c4 }
def k9c5 : Code := { maxStack := 2, maxLocals := 1, code := jdk_52_method_6_code, exceptionTable := #[], attributes := #[] }
def k9m5 : Method := { name := "length", desc := "([B)I", sig := { parameters := [(.array .byte)], returnType := some .int }, accessFlags := 9, code := some k9c5 }
def k9c6 : Code := { maxStack := 4, maxLocals := 5, code := jdk_52_method_14_code, exceptionTable := #[], attributes := #[] }
def k9m6 : Method := { name := "toBytes", desc := "([CII)[B", sig := { parameters := [(.array .char), .int, .int], returnType := some (.array .byte) }, accessFlags := 9, code := some k9c6 }
def k9c7 : Code := { maxStack := 2, maxLocals := 2, code := jdk_52_method_15_code, exceptionTable := #[], attributes := #[] }
def k9m7 : Method := { name := "coderFromArrayLen", desc := "([BI)B", sig := { parameters := [(.array .byte), .int], returnType := some .byte }, accessFlags := 8, code := some k9c7 }
def k9c8 : Code := { maxStack := 5, maxLocals := 6, code := jdk_52_method_16_code, exceptionTable := #[], attributes := #[] }
def k9m8 : Method := { name := "compress", desc := "([CII)[B", sig := { parameters := [(.array .char), .int, .int], returnType := some (.array .byte) }, accessFlags := 9, code := some k9c8 }
def k9c9 : Code := { maxStack := 3, maxLocals := 7, code := jdk_52_method_21_code, exceptionTable := #[], attributes := #[] }
def k9m9 : Method := { name := "compress", desc := "([CI[BII)I", sig := { parameters := [(.array .char), .int, (.array .byte), .int, .int], returnType := some .int }, accessFlags := 9, code := some k9c9 }
def k9c10 : Code := { maxStack := 2, maxLocals := 2, code := jdk_52_method_83_code, exceptionTable := #[], attributes := #[] }
def k9m10 : Method := { name := "charAt", desc := "([BI)C", sig := { parameters := [(.array .byte), .int], returnType := some .char }, accessFlags := 9, code := some k9c10 }
def k9c11 : Code := { maxStack := 2, maxLocals := 2, code := jdk_52_method_91_code, exceptionTable := #[], attributes := #[] }
def k9m11 : Method := { name := "checkIndex", desc := "(I[B)V", sig := { parameters := [.int, (.array .byte)], returnType := none }, accessFlags := 9, code := some k9c11 }
/-- java/lang/StringUTF16 -/
def k9 : Class := { plain "java/lang/StringUTF16" (some 0) with
  accessFlags := 48
  interfaces := #[]
  cf := some (fileOf pool9 12 #[.nestMembers #[627, 629, 369]] #[{ accessFlags := 0, nameIndex := 9, descriptorIndex := 10, attributes := #[] }, { accessFlags := 9, nameIndex := 109, descriptorIndex := 110, attributes := #[] }, { accessFlags := 9, nameIndex := 15, descriptorIndex := 16, attributes := #[] }, { accessFlags := 8, nameIndex := 113, descriptorIndex := 114, attributes := #[] }, { accessFlags := 8, nameIndex := 73, descriptorIndex := 74, attributes := #[] }, { accessFlags := 9, nameIndex := 50, descriptorIndex := 51, attributes := #[] }, { accessFlags := 9, nameIndex := 121, descriptorIndex := 122, attributes := #[] }, { accessFlags := 8, nameIndex := 261, descriptorIndex := 262, attributes := #[] }, { accessFlags := 9, nameIndex := 117, descriptorIndex := 122, attributes := #[] }, { accessFlags := 9, nameIndex := 117, descriptorIndex := 118, attributes := #[] }, { accessFlags := 9, nameIndex := 392, descriptorIndex := 74, attributes := #[] }, { accessFlags := 9, nameIndex := 69, descriptorIndex := 70, attributes := #[] }] 48 6 #[] #[{ accessFlags := 26, nameIndex := 61, descriptorIndex := 62, attributes := #[] }, { accessFlags := 26, nameIndex := 65, descriptorIndex := 62, attributes := #[] }, { accessFlags := 24, nameIndex := 430, descriptorIndex := 62, attributes := #[] }, { accessFlags := 4120, nameIndex := 46, descriptorIndex := 47, attributes := #[] }])
  fields := #[{ name := "HI_BYTE_SHIFT", type := .int, accessFlags := 26, slot := 0, constantValue := 0 }, { name := "LO_BYTE_SHIFT", type := .int, accessFlags := 26, slot := 1, constantValue := 0 }, { name := "MAX_LENGTH", type := .int, accessFlags := 24, slot := 2, constantValue := 0 }, { name := "$assertionsDisabled", type := .boolean, accessFlags := 4120, slot := 3, constantValue := 0 }]
  methods := #[k9m0, k9m1, k9m2, k9m3, k9m4, k9m5, k9m6, k9m7, k9m8, k9m9, k9m10, k9m11]
  instanceTypes := #[]
  staticTypes := #[.int, .int, .int, .boolean]
  resolved := Array.replicate 635 none
  statics := some 1 }

def pool10 : Array CpInfo := pool [(1, .class_ 2), (0, u "java/lang/String"), (1, .class_ 6), (1, u "java/lang/Object"), (0, u "<init>"), (0, u "()V"), (0, .methodref 1 10), (0, .nameAndType 11 12), (0, u "checkIndex"), (0, u "(II)V"), (1, .class_ 16), (1, u "java/lang/StringLatin1"), (36, u "([BI)C"), (67, u "$assertionsDisabled"), (0, u "Z"), (98, .class_ 223), (1, u "java/lang/StringLatin1$LinesSpliterator"), (28, u "charAt"), (137, .class_ 391), (0, u "java/lang/StringLatin1$CharsSpliterator")] 3

def k10m0 : Method := { name := "<init>", desc := "()V", sig := { parameters := [], returnType := none }, accessFlags := 0, code := none }
def k10c1 : Code := { maxStack := 2, maxLocals := 2, code := jdk_43_method_2_code, exceptionTable := #[], attributes := #[] }
def k10m1 : Method := { name := "charAt", desc := "([BI)C", sig := { parameters := [(.array .byte), .int], returnType := some .char }, accessFlags := 9, code := some k10c1 }
/-- java/lang/StringLatin1 -/
def k10 : Class := { plain "java/lang/StringLatin1" (some 0) with
  accessFlags := 48
  interfaces := #[]
  cf := some (fileOf pool10 14 #[.nestMembers #[390, 221]] #[{ accessFlags := 0, nameIndex := 7, descriptorIndex := 8, attributes := #[] }, { accessFlags := 9, nameIndex := 252, descriptorIndex := 53, attributes := #[] }] 48 4 #[] #[{ accessFlags := 4120, nameIndex := 121, descriptorIndex := 122, attributes := #[] }])
  fields := #[{ name := "$assertionsDisabled", type := .boolean, accessFlags := 4120, slot := 0, constantValue := 0 }]
  methods := #[k10m0, k10m1]
  instanceTypes := #[]
  staticTypes := #[.boolean]
  resolved := Array.replicate 395 none
  statics := none }

def pool11 : Array CpInfo := pool [(2, .class_ 4), (1, u "java/lang/Object"), (0, u "<init>"), (0, u "()V"), (17, .class_ 26), (1, u "jdk/internal/util/Preconditions"), (6, u "checkIndex"), (21, .class_ 56), (0, u "jdk/internal/util/Preconditions$4"), (57, .class_ 115), (0, u "jdk/internal/util/Preconditions$1"), (7, u "SIOOBE_FORMATTER"), (0, u "Ljava/util/function/BiFunction;"), (0, .class_ 126), (0, u "jdk/internal/util/Preconditions$2"), (3, u "AIOOBE_FORMATTER"), (0, .class_ 132), (0, u "jdk/internal/util/Preconditions$3"), (3, u "IOOBE_FORMATTER"), (41, u "(IILjava/util/function/BiFunction;)I")] 15

def k11m0 : Method := { name := "<init>", desc := "()V", sig := { parameters := [], returnType := none }, accessFlags := 1, code := none }
def k11c1 : Code := { maxStack := 3, maxLocals := 3, code := jdk_41_method_11_code, exceptionTable := #[], attributes := #[] }
def k11m1 : Method := { name := "checkIndex", desc := "(IILjava/util/function/BiFunction;)I", sig := { parameters := [.int, .int, (.object "java/util/function/BiFunction")], returnType := some .int }, accessFlags := 9, code := some k11c1 }
/-- jdk/internal/util/Preconditions -/
def k11 : Class := { plain "jdk/internal/util/Preconditions" (some 0) with
  accessFlags := 33
  interfaces := #[]
  cf := some (fileOf pool11 24 #[.nestMembers #[55, 131, 125, 114]] #[{ accessFlags := 1, nameIndex := 5, descriptorIndex := 6, attributes := #[] }, { accessFlags := 9, nameIndex := 33, descriptorIndex := 178, attributes := #[] }] 33 2 #[] #[{ accessFlags := 25, nameIndex := 123, descriptorIndex := 124, attributes := #[] }, { accessFlags := 25, nameIndex := 130, descriptorIndex := 124, attributes := #[] }, { accessFlags := 25, nameIndex := 136, descriptorIndex := 124, attributes := #[] }])
  fields := #[{ name := "SIOOBE_FORMATTER", type := (.object "java/util/function/BiFunction"), accessFlags := 25, slot := 0, constantValue := 0 }, { name := "AIOOBE_FORMATTER", type := (.object "java/util/function/BiFunction"), accessFlags := 25, slot := 1, constantValue := 0 }, { name := "IOOBE_FORMATTER", type := (.object "java/util/function/BiFunction"), accessFlags := 25, slot := 2, constantValue := 0 }]
  methods := #[k11m0, k11m1]
  instanceTypes := #[]
  staticTypes := #[(.object "java/util/function/BiFunction"), (.object "java/util/function/BiFunction"), (.object "java/util/function/BiFunction")]
  resolved := Array.replicate 194 none
  statics := some 2 }

def pool12 : Array CpInfo := pool [(1, .class_ 2), (0, u "java/lang/Character"), (18, u "value"), (0, u "C"), (19, .class_ 44), (1, u "java/lang/Object"), (3, .class_ 50), (1, u "java/lang/Character$CharacterCache"), (30, u "(C)Z"), (32, u "(I)Z"), (151, .methodref 1 267), (0, .nameAndType 268 114), (0, u "isISOControl"), (15, u "$assertionsDisabled"), (0, u "Z"), (21, .class_ 309), (1, u "java/lang/Character$UnicodeBlock"), (73, u "TYPE"), (0, u "Ljava/lang/Class;"), (0, .class_ 386), (0, u "java/io/Serializable"), (0, .class_ 388), (0, u "java/lang/Comparable"), (0, .class_ 390), (0, u "java/lang/constant/Constable"), (0, u "MIN_RADIX"), (0, u "I"), (2, u "MAX_RADIX"), (1, u "MIN_VALUE"), (1, u "MAX_VALUE"), (3, u "UNASSIGNED"), (0, u "B"), (0, u "UPPERCASE_LETTER"), (1, u "LOWERCASE_LETTER"), (0, u "TITLECASE_LETTER"), (1, u "MODIFIER_LETTER"), (1, u "OTHER_LETTER"), (1, u "NON_SPACING_MARK"), (1, u "ENCLOSING_MARK"), (1, u "COMBINING_SPACING_MARK"), (1, u "DECIMAL_DIGIT_NUMBER"), (1, u "LETTER_NUMBER"), (1, u "OTHER_NUMBER"), (1, u "SPACE_SEPARATOR"), (1, u "LINE_SEPARATOR"), (1, u "PARAGRAPH_SEPARATOR"), (1, u "CONTROL"), (1, u "FORMAT"), (1, u "PRIVATE_USE"), (1, u "SURROGATE"), (1, u "DASH_PUNCTUATION"), (1, u "START_PUNCTUATION"), (1, u "END_PUNCTUATION"), (1, u "CONNECTOR_PUNCTUATION"), (1, u "OTHER_PUNCTUATION"), (1, u "MATH_SYMBOL"), (1, u "CURRENCY_SYMBOL"), (1, u "MODIFIER_SYMBOL"), (1, u "OTHER_SYMBOL"), (1, u "INITIAL_QUOTE_PUNCTUATION"), (1, u "FINAL_QUOTE_PUNCTUATION"), (1, u "ERROR"), (1, u "DIRECTIONALITY_UNDEFINED"), (0, u "DIRECTIONALITY_LEFT_TO_RIGHT"), (0, u "DIRECTIONALITY_RIGHT_TO_LEFT"), (0, u "DIRECTIONALITY_RIGHT_TO_LEFT_ARABIC"), (0, u "DIRECTIONALITY_EUROPEAN_NUMBER"), (0, u "DIRECTIONALITY_EUROPEAN_NUMBER_SEPARATOR"), (0, u "DIRECTIONALITY_EUROPEAN_NUMBER_TERMINATOR"), (0, u "DIRECTIONALITY_ARABIC_NUMBER"), (0, u "DIRECTIONALITY_COMMON_NUMBER_SEPARATOR"), (0, u "DIRECTIONALITY_NONSPACING_MARK"), (0, u "DIRECTIONALITY_BOUNDARY_NEUTRAL"), (0, u "DIRECTIONALITY_PARAGRAPH_SEPARATOR"), (0, u "DIRECTIONALITY_SEGMENT_SEPARATOR"), (0, u "DIRECTIONALITY_WHITESPACE"), (0, u "DIRECTIONALITY_OTHER_NEUTRALS"), (0, u "DIRECTIONALITY_LEFT_TO_RIGHT_EMBEDDING"), (0, u "DIRECTIONALITY_LEFT_TO_RIGHT_OVERRIDE"), (0, u "DIRECTIONALITY_RIGHT_TO_LEFT_EMBEDDING"), (0, u "DIRECTIONALITY_RIGHT_TO_LEFT_OVERRIDE"), (1, u "DIRECTIONALITY_POP_DIRECTIONAL_FORMAT"), (0, u "DIRECTIONALITY_LEFT_TO_RIGHT_ISOLATE"), (0, u "DIRECTIONALITY_RIGHT_TO_LEFT_ISOLATE"), (0, u "DIRECTIONALITY_FIRST_STRONG_ISOLATE"), (0, u "DIRECTIONALITY_POP_DIRECTIONAL_ISOLATE"), (0, u "MIN_HIGH_SURROGATE"), (0, u "MAX_HIGH_SURROGATE"), (1, u "MIN_LOW_SURROGATE"), (0, u "MAX_LOW_SURROGATE"), (1, u "MIN_SURROGATE"), (0, u "MAX_SURROGATE"), (0, u "MIN_SUPPLEMENTARY_CODE_POINT"), (0, u "MIN_CODE_POINT"), (0, u "MAX_CODE_POINT"), (1, u "serialVersionUID"), (0, u "J"), (2, u "SIZE"), (0, u "BYTES"), (88, .class_ 596), (0, u "java/lang/Character$UnicodeScript"), (0, .class_ 598), (0, u "java/lang/Character$Subset")] 5

def k12c0 : Code := { maxStack := 1, maxLocals := 1, code := jdk_89_method_88_code, exceptionTable := #[], attributes := #[] }
def k12m0 : Method := { name := "isISOControl", desc := "(C)Z", sig := { parameters := [.char], returnType := some .boolean }, accessFlags := 9, code := some k12c0 }
def k12c1 : Code := { maxStack := 2, maxLocals := 1, code := jdk_89_method_89_code, exceptionTable := #[], attributes := #[] }
def k12m1 : Method := { name := "isISOControl", desc := "(I)Z", sig := { parameters := [.int], returnType := some .boolean }, accessFlags := 9, code := some k12c1 }
/-- java/lang/Character -/
def k12 : Class := { plain "java/lang/Character" (some 0) with
  accessFlags := 49
  interfaces := #[2, 3, 5]
  cf := some (fileOf pool12 1 #[.nestMembers #[48, 595, 307, 597]] #[{ accessFlags := 9, nameIndex := 268, descriptorIndex := 81, attributes := #[] }, { accessFlags := 9, nameIndex := 268, descriptorIndex := 114, attributes := #[] }] 49 42 #[385, 387, 389] #[{ accessFlags := 25, nameIndex := 391, descriptorIndex := 392, attributes := #[] }, { accessFlags := 25, nameIndex := 395, descriptorIndex := 392, attributes := #[] }, { accessFlags := 25, nameIndex := 397, descriptorIndex := 22, attributes := #[] }, { accessFlags := 25, nameIndex := 399, descriptorIndex := 22, attributes := #[] }, { accessFlags := 25, nameIndex := 383, descriptorIndex := 384, attributes := #[] }, { accessFlags := 25, nameIndex := 403, descriptorIndex := 404, attributes := #[] }, { accessFlags := 25, nameIndex := 405, descriptorIndex := 404, attributes := #[] }, { accessFlags := 25, nameIndex := 407, descriptorIndex := 404, attributes := #[] }, { accessFlags := 25, nameIndex := 408, descriptorIndex := 404, attributes := #[] }, { accessFlags := 25, nameIndex := 410, descriptorIndex := 404, attributes := #[] }, { accessFlags := 25, nameIndex := 412, descriptorIndex := 404, attributes := #[] }, { accessFlags := 25, nameIndex := 414, descriptorIndex := 404, attributes := #[] }, { accessFlags := 25, nameIndex := 416, descriptorIndex := 404, attributes := #[] }, { accessFlags := 25, nameIndex := 418, descriptorIndex := 404, attributes := #[] }, { accessFlags := 25, nameIndex := 420, descriptorIndex := 404, attributes := #[] }, { accessFlags := 25, nameIndex := 422, descriptorIndex := 404, attributes := #[] }, { accessFlags := 25, nameIndex := 424, descriptorIndex := 404, attributes := #[] }, { accessFlags := 25, nameIndex := 426, descriptorIndex := 404, attributes := #[] }, { accessFlags := 25, nameIndex := 428, descriptorIndex := 404, attributes := #[] }, { accessFlags := 25, nameIndex := 430, descriptorIndex := 404, attributes := #[] }, { accessFlags := 25, nameIndex := 432, descriptorIndex := 404, attributes := #[] }, { accessFlags := 25, nameIndex := 434, descriptorIndex := 404, attributes := #[] }, { accessFlags := 25, nameIndex := 436, descriptorIndex := 404, attributes := #[] }, { accessFlags := 25, nameIndex := 438, descriptorIndex := 404, attributes := #[] }, { accessFlags := 25, nameIndex := 440, descriptorIndex := 404, attributes := #[] }, { accessFlags := 25, nameIndex := 442, descriptorIndex := 404, attributes := #[] }, { accessFlags := 25, nameIndex := 444, descriptorIndex := 404, attributes := #[] }, { accessFlags := 25, nameIndex := 446, descriptorIndex := 404, attributes := #[] }, { accessFlags := 25, nameIndex := 448, descriptorIndex := 404, attributes := #[] }, { accessFlags := 25, nameIndex := 450, descriptorIndex := 404, attributes := #[] }, { accessFlags := 25, nameIndex := 452, descriptorIndex := 404, attributes := #[] }, { accessFlags := 25, nameIndex := 454, descriptorIndex := 404, attributes := #[] }, { accessFlags := 25, nameIndex := 456, descriptorIndex := 404, attributes := #[] }, { accessFlags := 25, nameIndex := 458, descriptorIndex := 404, attributes := #[] }, { accessFlags := 25, nameIndex := 460, descriptorIndex := 404, attributes := #[] }, { accessFlags := 24, nameIndex := 462, descriptorIndex := 392, attributes := #[] }, { accessFlags := 25, nameIndex := 464, descriptorIndex := 404, attributes := #[] }, { accessFlags := 25, nameIndex := 465, descriptorIndex := 404, attributes := #[] }, { accessFlags := 25, nameIndex := 466, descriptorIndex := 404, attributes := #[] }, { accessFlags := 25, nameIndex := 467, descriptorIndex := 404, attributes := #[] }, { accessFlags := 25, nameIndex := 468, descriptorIndex := 404, attributes := #[] }, { accessFlags := 25, nameIndex := 469, descriptorIndex := 404, attributes := #[] }, { accessFlags := 25, nameIndex := 470, descriptorIndex := 404, attributes := #[] }, { accessFlags := 25, nameIndex := 471, descriptorIndex := 404, attributes := #[] }, { accessFlags := 25, nameIndex := 472, descriptorIndex := 404, attributes := #[] }, { accessFlags := 25, nameIndex := 473, descriptorIndex := 404, attributes := #[] }, { accessFlags := 25, nameIndex := 474, descriptorIndex := 404, attributes := #[] }, { accessFlags := 25, nameIndex := 475, descriptorIndex := 404, attributes := #[] }, { accessFlags := 25, nameIndex := 476, descriptorIndex := 404, attributes := #[] }, { accessFlags := 25, nameIndex := 477, descriptorIndex := 404, attributes := #[] }, { accessFlags := 25, nameIndex := 478, descriptorIndex := 404, attributes := #[] }, { accessFlags := 25, nameIndex := 479, descriptorIndex := 404, attributes := #[] }, { accessFlags := 25, nameIndex := 480, descriptorIndex := 404, attributes := #[] }, { accessFlags := 25, nameIndex := 481, descriptorIndex := 404, attributes := #[] }, { accessFlags := 25, nameIndex := 482, descriptorIndex := 404, attributes := #[] }, { accessFlags := 25, nameIndex := 484, descriptorIndex := 404, attributes := #[] }, { accessFlags := 25, nameIndex := 485, descriptorIndex := 404, attributes := #[] }, { accessFlags := 25, nameIndex := 486, descriptorIndex := 404, attributes := #[] }, { accessFlags := 25, nameIndex := 487, descriptorIndex := 404, attributes := #[] }, { accessFlags := 25, nameIndex := 488, descriptorIndex := 404, attributes := #[] }, { accessFlags := 25, nameIndex := 489, descriptorIndex := 22, attributes := #[] }, { accessFlags := 25, nameIndex := 490, descriptorIndex := 22, attributes := #[] }, { accessFlags := 25, nameIndex := 492, descriptorIndex := 22, attributes := #[] }, { accessFlags := 25, nameIndex := 493, descriptorIndex := 22, attributes := #[] }, { accessFlags := 25, nameIndex := 495, descriptorIndex := 22, attributes := #[] }, { accessFlags := 25, nameIndex := 496, descriptorIndex := 22, attributes := #[] }, { accessFlags := 25, nameIndex := 497, descriptorIndex := 392, attributes := #[] }, { accessFlags := 25, nameIndex := 498, descriptorIndex := 392, attributes := #[] }, { accessFlags := 25, nameIndex := 499, descriptorIndex := 392, attributes := #[] }, { accessFlags := 18, nameIndex := 21, descriptorIndex := 22, attributes := #[] }, { accessFlags := 26, nameIndex := 501, descriptorIndex := 502, attributes := #[] }, { accessFlags := 25, nameIndex := 505, descriptorIndex := 392, attributes := #[] }, { accessFlags := 25, nameIndex := 506, descriptorIndex := 392, attributes := #[] }, { accessFlags := 4120, nameIndex := 284, descriptorIndex := 285, attributes := #[] }])
  fields := #[{ name := "MIN_RADIX", type := .int, accessFlags := 25, slot := 0, constantValue := 0 }, { name := "MAX_RADIX", type := .int, accessFlags := 25, slot := 1, constantValue := 0 }, { name := "MIN_VALUE", type := .char, accessFlags := 25, slot := 2, constantValue := 0 }, { name := "MAX_VALUE", type := .char, accessFlags := 25, slot := 3, constantValue := 0 }, { name := "TYPE", type := (.object "java/lang/Class"), accessFlags := 25, slot := 4, constantValue := 0 }, { name := "UNASSIGNED", type := .byte, accessFlags := 25, slot := 5, constantValue := 0 }, { name := "UPPERCASE_LETTER", type := .byte, accessFlags := 25, slot := 6, constantValue := 0 }, { name := "LOWERCASE_LETTER", type := .byte, accessFlags := 25, slot := 7, constantValue := 0 }, { name := "TITLECASE_LETTER", type := .byte, accessFlags := 25, slot := 8, constantValue := 0 }, { name := "MODIFIER_LETTER", type := .byte, accessFlags := 25, slot := 9, constantValue := 0 }, { name := "OTHER_LETTER", type := .byte, accessFlags := 25, slot := 10, constantValue := 0 }, { name := "NON_SPACING_MARK", type := .byte, accessFlags := 25, slot := 11, constantValue := 0 }, { name := "ENCLOSING_MARK", type := .byte, accessFlags := 25, slot := 12, constantValue := 0 }, { name := "COMBINING_SPACING_MARK", type := .byte, accessFlags := 25, slot := 13, constantValue := 0 }, { name := "DECIMAL_DIGIT_NUMBER", type := .byte, accessFlags := 25, slot := 14, constantValue := 0 }, { name := "LETTER_NUMBER", type := .byte, accessFlags := 25, slot := 15, constantValue := 0 }, { name := "OTHER_NUMBER", type := .byte, accessFlags := 25, slot := 16, constantValue := 0 }, { name := "SPACE_SEPARATOR", type := .byte, accessFlags := 25, slot := 17, constantValue := 0 }, { name := "LINE_SEPARATOR", type := .byte, accessFlags := 25, slot := 18, constantValue := 0 }, { name := "PARAGRAPH_SEPARATOR", type := .byte, accessFlags := 25, slot := 19, constantValue := 0 }, { name := "CONTROL", type := .byte, accessFlags := 25, slot := 20, constantValue := 0 }, { name := "FORMAT", type := .byte, accessFlags := 25, slot := 21, constantValue := 0 }, { name := "PRIVATE_USE", type := .byte, accessFlags := 25, slot := 22, constantValue := 0 }, { name := "SURROGATE", type := .byte, accessFlags := 25, slot := 23, constantValue := 0 }, { name := "DASH_PUNCTUATION", type := .byte, accessFlags := 25, slot := 24, constantValue := 0 }, { name := "START_PUNCTUATION", type := .byte, accessFlags := 25, slot := 25, constantValue := 0 }, { name := "END_PUNCTUATION", type := .byte, accessFlags := 25, slot := 26, constantValue := 0 }, { name := "CONNECTOR_PUNCTUATION", type := .byte, accessFlags := 25, slot := 27, constantValue := 0 }, { name := "OTHER_PUNCTUATION", type := .byte, accessFlags := 25, slot := 28, constantValue := 0 }, { name := "MATH_SYMBOL", type := .byte, accessFlags := 25, slot := 29, constantValue := 0 }, { name := "CURRENCY_SYMBOL", type := .byte, accessFlags := 25, slot := 30, constantValue := 0 }, { name := "MODIFIER_SYMBOL", type := .byte, accessFlags := 25, slot := 31, constantValue := 0 }, { name := "OTHER_SYMBOL", type := .byte, accessFlags := 25, slot := 32, constantValue := 0 }, { name := "INITIAL_QUOTE_PUNCTUATION", type := .byte, accessFlags := 25, slot := 33, constantValue := 0 }, { name := "FINAL_QUOTE_PUNCTUATION", type := .byte, accessFlags := 25, slot := 34, constantValue := 0 }, { name := "ERROR", type := .int, accessFlags := 24, slot := 35, constantValue := 0 }, { name := "DIRECTIONALITY_UNDEFINED", type := .byte, accessFlags := 25, slot := 36, constantValue := 0 }, { name := "DIRECTIONALITY_LEFT_TO_RIGHT", type := .byte, accessFlags := 25, slot := 37, constantValue := 0 }, { name := "DIRECTIONALITY_RIGHT_TO_LEFT", type := .byte, accessFlags := 25, slot := 38, constantValue := 0 }, { name := "DIRECTIONALITY_RIGHT_TO_LEFT_ARABIC", type := .byte, accessFlags := 25, slot := 39, constantValue := 0 }, { name := "DIRECTIONALITY_EUROPEAN_NUMBER", type := .byte, accessFlags := 25, slot := 40, constantValue := 0 }, { name := "DIRECTIONALITY_EUROPEAN_NUMBER_SEPARATOR", type := .byte, accessFlags := 25, slot := 41, constantValue := 0 }, { name := "DIRECTIONALITY_EUROPEAN_NUMBER_TERMINATOR", type := .byte, accessFlags := 25, slot := 42, constantValue := 0 }, { name := "DIRECTIONALITY_ARABIC_NUMBER", type := .byte, accessFlags := 25, slot := 43, constantValue := 0 }, { name := "DIRECTIONALITY_COMMON_NUMBER_SEPARATOR", type := .byte, accessFlags := 25, slot := 44, constantValue := 0 }, { name := "DIRECTIONALITY_NONSPACING_MARK", type := .byte, accessFlags := 25, slot := 45, constantValue := 0 }, { name := "DIRECTIONALITY_BOUNDARY_NEUTRAL", type := .byte, accessFlags := 25, slot := 46, constantValue := 0 }, { name := "DIRECTIONALITY_PARAGRAPH_SEPARATOR", type := .byte, accessFlags := 25, slot := 47, constantValue := 0 }, { name := "DIRECTIONALITY_SEGMENT_SEPARATOR", type := .byte, accessFlags := 25, slot := 48, constantValue := 0 }, { name := "DIRECTIONALITY_WHITESPACE", type := .byte, accessFlags := 25, slot := 49, constantValue := 0 }, { name := "DIRECTIONALITY_OTHER_NEUTRALS", type := .byte, accessFlags := 25, slot := 50, constantValue := 0 }, { name := "DIRECTIONALITY_LEFT_TO_RIGHT_EMBEDDING", type := .byte, accessFlags := 25, slot := 51, constantValue := 0 }, { name := "DIRECTIONALITY_LEFT_TO_RIGHT_OVERRIDE", type := .byte, accessFlags := 25, slot := 52, constantValue := 0 }, { name := "DIRECTIONALITY_RIGHT_TO_LEFT_EMBEDDING", type := .byte, accessFlags := 25, slot := 53, constantValue := 0 }, { name := "DIRECTIONALITY_RIGHT_TO_LEFT_OVERRIDE", type := .byte, accessFlags := 25, slot := 54, constantValue := 0 }, { name := "DIRECTIONALITY_POP_DIRECTIONAL_FORMAT", type := .byte, accessFlags := 25, slot := 55, constantValue := 0 }, { name := "DIRECTIONALITY_LEFT_TO_RIGHT_ISOLATE", type := .byte, accessFlags := 25, slot := 56, constantValue := 0 }, { name := "DIRECTIONALITY_RIGHT_TO_LEFT_ISOLATE", type := .byte, accessFlags := 25, slot := 57, constantValue := 0 }, { name := "DIRECTIONALITY_FIRST_STRONG_ISOLATE", type := .byte, accessFlags := 25, slot := 58, constantValue := 0 }, { name := "DIRECTIONALITY_POP_DIRECTIONAL_ISOLATE", type := .byte, accessFlags := 25, slot := 59, constantValue := 0 }, { name := "MIN_HIGH_SURROGATE", type := .char, accessFlags := 25, slot := 60, constantValue := 0 }, { name := "MAX_HIGH_SURROGATE", type := .char, accessFlags := 25, slot := 61, constantValue := 0 }, { name := "MIN_LOW_SURROGATE", type := .char, accessFlags := 25, slot := 62, constantValue := 0 }, { name := "MAX_LOW_SURROGATE", type := .char, accessFlags := 25, slot := 63, constantValue := 0 }, { name := "MIN_SURROGATE", type := .char, accessFlags := 25, slot := 64, constantValue := 0 }, { name := "MAX_SURROGATE", type := .char, accessFlags := 25, slot := 65, constantValue := 0 }, { name := "MIN_SUPPLEMENTARY_CODE_POINT", type := .int, accessFlags := 25, slot := 66, constantValue := 0 }, { name := "MIN_CODE_POINT", type := .int, accessFlags := 25, slot := 67, constantValue := 0 }, { name := "MAX_CODE_POINT", type := .int, accessFlags := 25, slot := 68, constantValue := 0 }, { name := "value", type := .char, accessFlags := 18, slot := 0, constantValue := 0 }, { name := "serialVersionUID", type := .long, accessFlags := 26, slot := 69, constantValue := 0 }, { name := "SIZE", type := .int, accessFlags := 25, slot := 70, constantValue := 0 }, { name := "BYTES", type := .int, accessFlags := 25, slot := 71, constantValue := 0 }, { name := "$assertionsDisabled", type := .boolean, accessFlags := 4120, slot := 72, constantValue := 0 }]
  methods := #[k12m0, k12m1]
  instanceTypes := #[.char]
  staticTypes := #[.int, .int, .char, .char, (.object "java/lang/Class"), .byte, .byte, .byte, .byte, .byte, .byte, .byte, .byte, .byte, .byte, .byte, .byte, .byte, .byte, .byte, .byte, .byte, .byte, .byte, .byte, .byte, .byte, .byte, .byte, .byte, .byte, .byte, .byte, .byte, .byte, .int, .byte, .byte, .byte, .byte, .byte, .byte, .byte, .byte, .byte, .byte, .byte, .byte, .byte, .byte, .byte, .byte, .byte, .byte, .byte, .byte, .byte, .byte, .byte, .byte, .char, .char, .char, .char, .char, .char, .int, .int, .int, .long, .int, .int, .boolean]
  resolved := Array.replicate 604 none
  statics := none }

def pool13 : Array CpInfo := pool [(9, u "<init>"), (6, .class_ 18), (1, u "java/lang/Object"), (0, u "()V"), (1, .class_ 23), (1, u "jdk/internal/util/ArraysSupport"), (0, u "LOG2_ARRAY_LONG_INDEX_SCALE"), (0, u "I"), (2, u "U"), (0, u "Ljdk/internal/misc/Unsafe;"), (8, u "BIG_ENDIAN"), (0, u "Z"), (8, u "LOG2_BYTE_BIT_SIZE"), (4, u "LOG2_ARRAY_INT_INDEX_SCALE"), (54, u "JLA"), (0, u "Ljdk/internal/access/JavaLangAccess;"), (11, u "LOG2_ARRAY_BOOLEAN_INDEX_SCALE"), (9, u "LOG2_ARRAY_BYTE_INDEX_SCALE"), (5, u "LOG2_ARRAY_CHAR_INDEX_SCALE"), (5, u "LOG2_ARRAY_SHORT_INDEX_SCALE"), (18, u "LOG2_ARRAY_FLOAT_INDEX_SCALE"), (24, u "LOG2_ARRAY_DOUBLE_INDEX_SCALE"), (89, u "T_BOOLEAN"), (2, u "T_CHAR"), (1, u "T_FLOAT"), (1, u "T_DOUBLE"), (1, u "T_BYTE"), (1, u "T_SHORT"), (1, u "T_INT"), (1, u "T_LONG"), (1, u "SOFT_MAX_ARRAY_LENGTH")] 83

def k13m0 : Method := { name := "<init>", desc := "()V", sig := { parameters := [], returnType := none }, accessFlags := 2, code := none }
/-- jdk/internal/util/ArraysSupport -/
def k13 : Class := { plain "jdk/internal/util/ArraysSupport" (some 0) with
  accessFlags := 33
  interfaces := #[]
  cf := some (fileOf pool13 21 #[] #[{ accessFlags := 2, nameIndex := 9, descriptorIndex := 19, attributes := #[] }] 33 16 #[] #[{ accessFlags := 24, nameIndex := 28, descriptorIndex := 29, attributes := #[] }, { accessFlags := 26, nameIndex := 38, descriptorIndex := 39, attributes := #[] }, { accessFlags := 25, nameIndex := 121, descriptorIndex := 25, attributes := #[] }, { accessFlags := 25, nameIndex := 131, descriptorIndex := 25, attributes := #[] }, { accessFlags := 25, nameIndex := 137, descriptorIndex := 25, attributes := #[] }, { accessFlags := 25, nameIndex := 143, descriptorIndex := 25, attributes := #[] }, { accessFlags := 25, nameIndex := 53, descriptorIndex := 25, attributes := #[] }, { accessFlags := 25, nameIndex := 24, descriptorIndex := 25, attributes := #[] }, { accessFlags := 25, nameIndex := 162, descriptorIndex := 25, attributes := #[] }, { accessFlags := 25, nameIndex := 187, descriptorIndex := 25, attributes := #[] }, { accessFlags := 26, nameIndex := 48, descriptorIndex := 25, attributes := #[] }, { accessFlags := 25, nameIndex := 277, descriptorIndex := 25, attributes := #[] }, { accessFlags := 25, nameIndex := 280, descriptorIndex := 25, attributes := #[] }, { accessFlags := 25, nameIndex := 282, descriptorIndex := 25, attributes := #[] }, { accessFlags := 25, nameIndex := 284, descriptorIndex := 25, attributes := #[] }, { accessFlags := 25, nameIndex := 286, descriptorIndex := 25, attributes := #[] }, { accessFlags := 25, nameIndex := 288, descriptorIndex := 25, attributes := #[] }, { accessFlags := 25, nameIndex := 290, descriptorIndex := 25, attributes := #[] }, { accessFlags := 25, nameIndex := 292, descriptorIndex := 25, attributes := #[] }, { accessFlags := 26, nameIndex := 108, descriptorIndex := 109, attributes := #[] }, { accessFlags := 25, nameIndex := 294, descriptorIndex := 25, attributes := #[] }])
  fields := #[{ name := "U", type := (.object "jdk/internal/misc/Unsafe"), accessFlags := 24, slot := 0, constantValue := 0 }, { name := "BIG_ENDIAN", type := .boolean, accessFlags := 26, slot := 1, constantValue := 0 }, { name := "LOG2_ARRAY_BOOLEAN_INDEX_SCALE", type := .int, accessFlags := 25, slot := 2, constantValue := 0 }, { name := "LOG2_ARRAY_BYTE_INDEX_SCALE", type := .int, accessFlags := 25, slot := 3, constantValue := 0 }, { name := "LOG2_ARRAY_CHAR_INDEX_SCALE", type := .int, accessFlags := 25, slot := 4, constantValue := 0 }, { name := "LOG2_ARRAY_SHORT_INDEX_SCALE", type := .int, accessFlags := 25, slot := 5, constantValue := 0 }, { name := "LOG2_ARRAY_INT_INDEX_SCALE", type := .int, accessFlags := 25, slot := 6, constantValue := 0 }, { name := "LOG2_ARRAY_LONG_INDEX_SCALE", type := .int, accessFlags := 25, slot := 7, constantValue := 0 }, { name := "LOG2_ARRAY_FLOAT_INDEX_SCALE", type := .int, accessFlags := 25, slot := 8, constantValue := 0 }, { name := "LOG2_ARRAY_DOUBLE_INDEX_SCALE", type := .int, accessFlags := 25, slot := 9, constantValue := 0 }, { name := "LOG2_BYTE_BIT_SIZE", type := .int, accessFlags := 26, slot := 10, constantValue := 0 }, { name := "T_BOOLEAN", type := .int, accessFlags := 25, slot := 11, constantValue := 0 }, { name := "T_CHAR", type := .int, accessFlags := 25, slot := 12, constantValue := 0 }, { name := "T_FLOAT", type := .int, accessFlags := 25, slot := 13, constantValue := 0 }, { name := "T_DOUBLE", type := .int, accessFlags := 25, slot := 14, constantValue := 0 }, { name := "T_BYTE", type := .int, accessFlags := 25, slot := 15, constantValue := 0 }, { name := "T_SHORT", type := .int, accessFlags := 25, slot := 16, constantValue := 0 }, { name := "T_INT", type := .int, accessFlags := 25, slot := 17, constantValue := 0 }, { name := "T_LONG", type := .int, accessFlags := 25, slot := 18, constantValue := 0 }, { name := "JLA", type := (.object "jdk/internal/access/JavaLangAccess"), accessFlags := 26, slot := 19, constantValue := 0 }, { name := "SOFT_MAX_ARRAY_LENGTH", type := .int, accessFlags := 25, slot := 20, constantValue := 0 }]
  methods := #[k13m0]
  instanceTypes := #[]
  staticTypes := #[(.object "jdk/internal/misc/Unsafe"), .boolean, .int, .int, .int, .int, .int, .int, .int, .int, .int, .int, .int, .int, .int, .int, .int, .int, .int, (.object "jdk/internal/access/JavaLangAccess"), .int]
  resolved := Array.replicate 378 none
  statics := none }

def pool14 : Array CpInfo := pool [(1, u "java/lang/Cloneable"), (0, .class_ 1), (0, u "java/lang/Object"), (0, .class_ 3)] 3

/-- java/lang/Cloneable -/
def k14 : Class := { plain "java/lang/Cloneable" (some 0) with
  accessFlags := 1537
  interfaces := #[]
  cf := some (fileOf pool14 2 #[] #[] 1537 4 #[] #[])
  fields := #[]
  methods := #[]
  instanceTypes := #[]
  staticTypes := #[]
  resolved := Array.replicate 8 none
  statics := none }

/-- the primitive byte -/
def k15 : Class := { plain "byte" none with kind := .primitive 'B', accessFlags := 0x411 }
/-- [B -/
def k16 : Class := { plain "[B" (some 0) with kind := .array 15 .byte, interfaces := #[14, 2], accessFlags := 1041 }

/-- the primitive char -/
def k17 : Class := { plain "char" none with kind := .primitive 'C', accessFlags := 0x411 }
/-- [C -/
def k18 : Class := { plain "[C" (some 0) with kind := .array 17 .char, interfaces := #[14, 2], accessFlags := 1041 }

/-- the primitive int -/
def k19 : Class := { plain "int" none with kind := .primitive 'I', accessFlags := 0x411 }
/-- [I -/
def k20 : Class := { plain "[I" (some 0) with kind := .array 19 .int, interfaces := #[14, 2], accessFlags := 1041 }

def heap : Heap := #[{ cls := 7, slots := #[.long 0, .int 1, .null, .int 0, .null, .int 0, .int 0], vm := .statics 7 },
  { cls := 9, slots := #[.int 0, .int 8, .int 0, .int 1], vm := .statics 9 },
  { cls := 11, slots := #[.null, .null, .null], vm := .statics 11 }]
def classes : Array Class := #[k0, k1, k2, k3, k4, k5, k6, k7, k8, k9, k10, k11, k12, k13, k14, k15, k16, k17, k18, k19, k20]
def interned : List (Array UInt16 × Addr) := []
def slotsUsed : Nat := 14
def theMethod : MethodId := ⟨1, 1⟩
def args0 : Array Value := #[.int 5, .int 6, .int 7, .int 8, .int 9]
def aboutOver (below : List Frame) : State where
  vm := { classes := classes, interned := interned.toArray }
  heap := heap
  slotsUsed := slotsUsed
  threads := #[{ frames := .invoking theMethod args0 :: below }]
def below0 : List Frame := [.native { method := ⟨0, 0⟩, args := #[] }]
def about1 : State := aboutOver below0
def p0 : Program := .bare "" "" ""
def e0 : Env := launch0.env 0 0 0
theorem w_frames : about1.frames = Frame.invoking theMethod args0 :: below0 := rfl
set_option maxRecDepth 65536 in
theorem w_args : argsFit about1.vm theMethod args0 = true := by decide +kernel
set_option maxRecDepth 65536 in
theorem w_heap : heapFits about1 = true := by decide +kernel
set_option maxRecDepth 65536 in
theorem w_runnable : about1.curStatus? = some .runnable := by decide +kernel
set_option maxRecDepth 65536 in
theorem w_alone : about1.alone = true := by decide +kernel
set_option maxRecDepth 65536 in
theorem w_named : about1.methodNamed? x = some theMethod := by decide +kernel
set_option maxRecDepth 65536 in
theorem w_hears : about1.hears theMethod below0 = true := by decide +kernel
set_option maxRecDepth 65536 in
theorem w_ripe : about1.ripe theMethod args0 below0 = true := by decide +kernel
theorem w_running : about1.status = .running := rfl
set_option maxRecDepth 65536 in
theorem w_room : about1.hasRoom e0.platform room_1 = true :=
  launch0.hasRoom_least _ room_1 (by decide +kernel) (by decide +kernel) (by decide +kernel) (by decide +kernel) (by decide +kernel) (by decide +kernel)
theorem allAtoms_all (ts : List Jvm.Cond) (a : Array Jvm.Value) (st : Jvm.State) : (allAtoms ts).before a st = ts.all (fun c => c.before a st) := by
  induction ts with
  | nil => rfl
  | cons c t ih =>
    show (Jvm.Cond.and c (allAtoms t)).before a st = _
    rw [Jvm.Cond.before_and, ih, List.all_cons]
def words1 : List Jvm.Cond := Jvm.Cond.code x code maxLocals ret :: tables_1
/-- a 'code' word, met by the world's own term for the bytes: nothing is compared byte by byte -/
theorem code_word {y : MethodName} {bytes : ByteArray} {mx : Nat} {rt : Option FieldType} {a : Array Value} {s : State} {m : MethodId} {meth : Method} {c : Code} (h1 : s.methodNamed? y = some m) (h2 : s.vm.method? m = some meth) (h3 : meth.code = some c) (h4 : c.code = bytes)
    (h5 : (c.maxLocals == mx && c.exceptionTable.isEmpty && decide (c.maxStack ≤ mostOperands) && decide (meth.sig.returnType = rt) && !meth.locks && decide (parseMethodDescriptor y.desc = some meth.sig)) = true) : (Jvm.Cond.code y bytes mx rt).before a s = true := by
  simp only [Bool.and_eq_true, beq_iff_eq, Bool.not_eq_true', decide_eq_true_eq] at h5
  obtain ⟨⟨⟨⟨⟨g1, g2⟩, g3⟩, g4⟩, g5⟩, g6⟩ := h5
  simp [Cond.before, Cond.holds, Cond.value, h1, h2, h3, h4, g1, g2, g3, g4, g5, g6]
def isCode : Jvm.Cond → Bool
  | .code _ _ _ _ => true
  | _ => false
theorem all_split {L : List Jvm.Cond} {P : Jvm.Cond → Bool} (h1 : L.all (fun c => isCode c || P c) = true) (h2 : ∀ c ∈ L.filter isCode, P c = true) : L.all P = true := by
  refine List.all_eq_true.mpr fun c hc => ?_
  have h := List.all_eq_true.mp h1 c hc
  rcases Bool.eq_false_or_eq_true (isCode c) with hi | hi
  · exact h2 c (List.mem_filter.mpr ⟨hc, hi⟩)
  · simpa [hi] using h
set_option maxRecDepth 65536 in
theorem w_c0 : (Jvm.Cond.code x code maxLocals ret).before args0 about1 = true := code_word (m := ⟨1, 1⟩) (meth := k1m1) (c := k1c1) (by decide +kernel) rfl rfl rfl (by decide +kernel)
set_option maxRecDepth 65536 in
theorem w_c1 : (Jvm.Cond.code ({ cls := "com/example/quittance/quittance/apply/CashApplicationFitsDescriptionPinLaw", name := "draw", desc := "(I)C" } : Jvm.MethodName) method_3_code (1 : Nat) (Option.some Jvm.ClassFile.FieldType.char)).before args0 about1 = true := code_word (m := ⟨1, 2⟩) (meth := k1m2) (c := k1c2) (by decide +kernel) rfl rfl rfl (by decide +kernel)
set_option maxRecDepth 65536 in
theorem w_c2 : (Jvm.Cond.code ({ cls := "com/example/quittance/quittance/apply/CashApplicationFitsDescriptionPinLaw", name := "chars", desc := "(ICCCC)[C" } : Jvm.MethodName) method_5_code (5 : Nat) (Option.some (Jvm.ClassFile.FieldType.array Jvm.ClassFile.FieldType.char))).before args0 about1 = true := code_word (m := ⟨1, 4⟩) (meth := k1m4) (c := k1c4) (by decide +kernel) rfl rfl rfl (by decide +kernel)
set_option maxRecDepth 65536 in
theorem w_c3 : (Jvm.Cond.code ({ cls := "java/lang/String", name := "<init>", desc := "([C)V" } : Jvm.MethodName) jdk_42_method_3_code (2 : Nat) (Option.none : Option Jvm.ClassFile.FieldType)).before args0 about1 = true := code_word (m := ⟨7, 1⟩) (meth := k7m1) (c := k7c1) (by decide +kernel) rfl rfl rfl (by decide +kernel)
set_option maxRecDepth 65536 in
theorem w_c4 : (Jvm.Cond.code ({ cls := "java/lang/String", name := "<init>", desc := "([CIILjava/lang/Void;)V" } : Jvm.MethodName) jdk_42_method_149_code (6 : Nat) (Option.none : Option Jvm.ClassFile.FieldType)).before args0 about1 = true := code_word (m := ⟨7, 4⟩) (meth := k7m4) (c := k7c4) (by decide +kernel) rfl rfl rfl (by decide +kernel)
set_option maxRecDepth 65536 in
theorem w_c5 : (Jvm.Cond.code ({ cls := "java/lang/Object", name := "<init>", desc := "()V" } : Jvm.MethodName) object_method_1_code (1 : Nat) (Option.none : Option Jvm.ClassFile.FieldType)).before args0 about1 = true := code_word (m := ⟨0, 0⟩) (meth := k0m0) (c := k0c0) (by decide +kernel) rfl rfl rfl (by decide +kernel)
set_option maxRecDepth 65536 in
theorem w_c6 : (Jvm.Cond.code ({ cls := "com/example/quittance/quittance/apply/CashApplication", name := "fitsDescription", desc := "(Ljava/lang/String;)Z" } : Jvm.MethodName) prog_16_method_16_code (3 : Nat) (Option.some Jvm.ClassFile.FieldType.boolean)).before args0 about1 = true := code_word (m := ⟨8, 0⟩) (meth := k8m0) (c := k8c0) (by decide +kernel) rfl rfl rfl (by decide +kernel)
set_option maxRecDepth 65536 in
theorem w_c7 : (Jvm.Cond.code ({ cls := "java/lang/String", name := "length", desc := "()I" } : Jvm.MethodName) jdk_42_method_54_code (1 : Nat) (Option.some Jvm.ClassFile.FieldType.int)).before args0 about1 = true := code_word (m := ⟨7, 2⟩) (meth := k7m2) (c := k7c2) (by decide +kernel) rfl rfl rfl (by decide +kernel)
set_option maxRecDepth 65536 in
theorem w_c8 : (Jvm.Cond.code ({ cls := "java/lang/String", name := "coder", desc := "()B" } : Jvm.MethodName) jdk_42_method_152_code (1 : Nat) (Option.some Jvm.ClassFile.FieldType.byte)).before args0 about1 = true := code_word (m := ⟨7, 5⟩) (meth := k7m5) (c := k7c5) (by decide +kernel) rfl rfl rfl (by decide +kernel)
set_option maxRecDepth 65536 in
theorem w_c9 : (Jvm.Cond.code ({ cls := "java/lang/StringUTF16", name := "compress", desc := "([CII)[B" } : Jvm.MethodName) jdk_52_method_16_code (6 : Nat) (Option.some (Jvm.ClassFile.FieldType.array Jvm.ClassFile.FieldType.byte))).before args0 about1 = true := code_word (m := ⟨9, 8⟩) (meth := k9m8) (c := k9c8) (by decide +kernel) rfl rfl rfl (by decide +kernel)
set_option maxRecDepth 65536 in
theorem w_c10 : (Jvm.Cond.code ({ cls := "java/lang/StringUTF16", name := "compress", desc := "([CI[BII)I" } : Jvm.MethodName) jdk_52_method_21_code (7 : Nat) (Option.some Jvm.ClassFile.FieldType.int)).before args0 about1 = true := code_word (m := ⟨9, 9⟩) (meth := k9m9) (c := k9c9) (by decide +kernel) rfl rfl rfl (by decide +kernel)
set_option maxRecDepth 65536 in
theorem w_c11 : (Jvm.Cond.code ({ cls := "java/lang/StringUTF16", name := "coderFromArrayLen", desc := "([BI)B" } : Jvm.MethodName) jdk_52_method_15_code (2 : Nat) (Option.some Jvm.ClassFile.FieldType.byte)).before args0 about1 = true := code_word (m := ⟨9, 7⟩) (meth := k9m7) (c := k9c7) (by decide +kernel) rfl rfl rfl (by decide +kernel)
set_option maxRecDepth 65536 in
theorem w_c12 : (Jvm.Cond.code ({ cls := "com/example/quittance/quittance/apply/CashApplicationFitsDescriptionPinLaw", name := "fits", desc := "(C)Z" } : Jvm.MethodName) method_4_code (1 : Nat) (Option.some Jvm.ClassFile.FieldType.boolean)).before args0 about1 = true := code_word (m := ⟨1, 3⟩) (meth := k1m3) (c := k1c3) (by decide +kernel) rfl rfl rfl (by decide +kernel)
set_option maxRecDepth 65536 in
theorem w_c13 : (Jvm.Cond.code ({ cls := "java/lang/String", name := "charAt", desc := "(I)C" } : Jvm.MethodName) jdk_42_method_56_code (2 : Nat) (Option.some Jvm.ClassFile.FieldType.char)).before args0 about1 = true := code_word (m := ⟨7, 3⟩) (meth := k7m3) (c := k7c3) (by decide +kernel) rfl rfl rfl (by decide +kernel)
set_option maxRecDepth 65536 in
theorem w_c14 : (Jvm.Cond.code ({ cls := "java/lang/String", name := "isLatin1", desc := "()Z" } : Jvm.MethodName) jdk_42_method_154_code (1 : Nat) (Option.some Jvm.ClassFile.FieldType.boolean)).before args0 about1 = true := code_word (m := ⟨7, 6⟩) (meth := k7m6) (c := k7c6) (by decide +kernel) rfl rfl rfl (by decide +kernel)
set_option maxRecDepth 65536 in
theorem w_c15 : (Jvm.Cond.code ({ cls := "java/lang/StringLatin1", name := "charAt", desc := "([BI)C" } : Jvm.MethodName) jdk_43_method_2_code (2 : Nat) (Option.some Jvm.ClassFile.FieldType.char)).before args0 about1 = true := code_word (m := ⟨10, 1⟩) (meth := k10m1) (c := k10c1) (by decide +kernel) rfl rfl rfl (by decide +kernel)
set_option maxRecDepth 65536 in
theorem w_c16 : (Jvm.Cond.code ({ cls := "java/lang/String", name := "checkIndex", desc := "(II)V" } : Jvm.MethodName) jdk_42_method_155_code (2 : Nat) (Option.none : Option Jvm.ClassFile.FieldType)).before args0 about1 = true := code_word (m := ⟨7, 7⟩) (meth := k7m7) (c := k7c7) (by decide +kernel) rfl rfl rfl (by decide +kernel)
set_option maxRecDepth 65536 in
theorem w_c17 : (Jvm.Cond.code ({ cls := "jdk/internal/util/Preconditions", name := "checkIndex", desc := "(IILjava/util/function/BiFunction;)I" } : Jvm.MethodName) jdk_41_method_11_code (3 : Nat) (Option.some Jvm.ClassFile.FieldType.int)).before args0 about1 = true := code_word (m := ⟨11, 1⟩) (meth := k11m1) (c := k11c1) (by decide +kernel) rfl rfl rfl (by decide +kernel)
set_option maxRecDepth 65536 in
theorem w_c18 : (Jvm.Cond.code ({ cls := "java/lang/Character", name := "isISOControl", desc := "(C)Z" } : Jvm.MethodName) jdk_89_method_88_code (1 : Nat) (Option.some Jvm.ClassFile.FieldType.boolean)).before args0 about1 = true := code_word (m := ⟨12, 0⟩) (meth := k12m0) (c := k12c0) (by decide +kernel) rfl rfl rfl (by decide +kernel)
set_option maxRecDepth 65536 in
theorem w_c19 : (Jvm.Cond.code ({ cls := "java/lang/Character", name := "isISOControl", desc := "(I)Z" } : Jvm.MethodName) jdk_89_method_89_code (1 : Nat) (Option.some Jvm.ClassFile.FieldType.boolean)).before args0 about1 = true := code_word (m := ⟨12, 1⟩) (meth := k12m1) (c := k12c1) (by decide +kernel) rfl rfl rfl (by decide +kernel)
set_option maxRecDepth 65536 in
theorem w_c20 : (Jvm.Cond.code ({ cls := "java/lang/StringUTF16", name := "toBytes", desc := "([CII)[B" } : Jvm.MethodName) jdk_52_method_14_code (5 : Nat) (Option.some (Jvm.ClassFile.FieldType.array Jvm.ClassFile.FieldType.byte))).before args0 about1 = true := code_word (m := ⟨9, 6⟩) (meth := k9m6) (c := k9c6) (by decide +kernel) rfl rfl rfl (by decide +kernel)
set_option maxRecDepth 65536 in
theorem w_c21 : (Jvm.Cond.code ({ cls := "java/lang/StringUTF16", name := "newBytesFor", desc := "(I)[B" } : Jvm.MethodName) jdk_52_method_2_code (1 : Nat) (Option.some (Jvm.ClassFile.FieldType.array Jvm.ClassFile.FieldType.byte))).before args0 about1 = true := code_word (m := ⟨9, 1⟩) (meth := k9m1) (c := k9c1) (by decide +kernel) rfl rfl rfl (by decide +kernel)
set_option maxRecDepth 65536 in
theorem w_c22 : (Jvm.Cond.code ({ cls := "java/lang/StringUTF16", name := "newBytesLength", desc := "(I)I" } : Jvm.MethodName) jdk_52_method_3_code (1 : Nat) (Option.some Jvm.ClassFile.FieldType.int)).before args0 about1 = true := code_word (m := ⟨9, 2⟩) (meth := k9m2) (c := k9c2) (by decide +kernel) rfl rfl rfl (by decide +kernel)
set_option maxRecDepth 65536 in
theorem w_c23 : (Jvm.Cond.code ({ cls := "java/lang/StringUTF16", name := "putChar", desc := "([BII)V" } : Jvm.MethodName) jdk_52_method_4_code (3 : Nat) (Option.none : Option Jvm.ClassFile.FieldType)).before args0 about1 = true := code_word (m := ⟨9, 3⟩) (meth := k9m3) (c := k9c3) (by decide +kernel) rfl rfl rfl (by decide +kernel)
set_option maxRecDepth 65536 in
theorem w_c24 : (Jvm.Cond.code ({ cls := "java/lang/StringUTF16", name := "getChar", desc := "([BI)C" } : Jvm.MethodName) jdk_52_method_5_code (2 : Nat) (Option.some Jvm.ClassFile.FieldType.char)).before args0 about1 = true := code_word (m := ⟨9, 4⟩) (meth := k9m4) (c := k9c4) (by decide +kernel) rfl rfl rfl (by decide +kernel)
set_option maxRecDepth 65536 in
theorem w_c25 : (Jvm.Cond.code ({ cls := "java/lang/StringUTF16", name := "charAt", desc := "([BI)C" } : Jvm.MethodName) jdk_52_method_83_code (2 : Nat) (Option.some Jvm.ClassFile.FieldType.char)).before args0 about1 = true := code_word (m := ⟨9, 10⟩) (meth := k9m10) (c := k9c10) (by decide +kernel) rfl rfl rfl (by decide +kernel)
set_option maxRecDepth 65536 in
theorem w_c26 : (Jvm.Cond.code ({ cls := "java/lang/StringUTF16", name := "checkIndex", desc := "(I[B)V" } : Jvm.MethodName) jdk_52_method_91_code (2 : Nat) (Option.none : Option Jvm.ClassFile.FieldType)).before args0 about1 = true := code_word (m := ⟨9, 11⟩) (meth := k9m11) (c := k9c11) (by decide +kernel) rfl rfl rfl (by decide +kernel)
set_option maxRecDepth 65536 in
theorem w_c27 : (Jvm.Cond.code ({ cls := "java/lang/StringUTF16", name := "length", desc := "([B)I" } : Jvm.MethodName) jdk_52_method_6_code (1 : Nat) (Option.some Jvm.ClassFile.FieldType.int)).before args0 about1 = true := code_word (m := ⟨9, 5⟩) (meth := k9m5) (c := k9c5) (by decide +kernel) rfl rfl rfl (by decide +kernel)
def codes1 : List Jvm.Cond := [Jvm.Cond.code x code maxLocals ret, Jvm.Cond.code ({ cls := "com/example/quittance/quittance/apply/CashApplicationFitsDescriptionPinLaw", name := "draw", desc := "(I)C" } : Jvm.MethodName) method_3_code (1 : Nat) (Option.some Jvm.ClassFile.FieldType.char), Jvm.Cond.code ({ cls := "com/example/quittance/quittance/apply/CashApplicationFitsDescriptionPinLaw", name := "chars", desc := "(ICCCC)[C" } : Jvm.MethodName) method_5_code (5 : Nat) (Option.some (Jvm.ClassFile.FieldType.array Jvm.ClassFile.FieldType.char)), Jvm.Cond.code ({ cls := "java/lang/String", name := "<init>", desc := "([C)V" } : Jvm.MethodName) jdk_42_method_3_code (2 : Nat) (Option.none : Option Jvm.ClassFile.FieldType), Jvm.Cond.code ({ cls := "java/lang/String", name := "<init>", desc := "([CIILjava/lang/Void;)V" } : Jvm.MethodName) jdk_42_method_149_code (6 : Nat) (Option.none : Option Jvm.ClassFile.FieldType), Jvm.Cond.code ({ cls := "java/lang/Object", name := "<init>", desc := "()V" } : Jvm.MethodName) object_method_1_code (1 : Nat) (Option.none : Option Jvm.ClassFile.FieldType), Jvm.Cond.code ({ cls := "com/example/quittance/quittance/apply/CashApplication", name := "fitsDescription", desc := "(Ljava/lang/String;)Z" } : Jvm.MethodName) prog_16_method_16_code (3 : Nat) (Option.some Jvm.ClassFile.FieldType.boolean), Jvm.Cond.code ({ cls := "java/lang/String", name := "length", desc := "()I" } : Jvm.MethodName) jdk_42_method_54_code (1 : Nat) (Option.some Jvm.ClassFile.FieldType.int), Jvm.Cond.code ({ cls := "java/lang/String", name := "coder", desc := "()B" } : Jvm.MethodName) jdk_42_method_152_code (1 : Nat) (Option.some Jvm.ClassFile.FieldType.byte), Jvm.Cond.code ({ cls := "java/lang/StringUTF16", name := "compress", desc := "([CII)[B" } : Jvm.MethodName) jdk_52_method_16_code (6 : Nat) (Option.some (Jvm.ClassFile.FieldType.array Jvm.ClassFile.FieldType.byte)), Jvm.Cond.code ({ cls := "java/lang/StringUTF16", name := "compress", desc := "([CI[BII)I" } : Jvm.MethodName) jdk_52_method_21_code (7 : Nat) (Option.some Jvm.ClassFile.FieldType.int), Jvm.Cond.code ({ cls := "java/lang/StringUTF16", name := "coderFromArrayLen", desc := "([BI)B" } : Jvm.MethodName) jdk_52_method_15_code (2 : Nat) (Option.some Jvm.ClassFile.FieldType.byte), Jvm.Cond.code ({ cls := "com/example/quittance/quittance/apply/CashApplicationFitsDescriptionPinLaw", name := "fits", desc := "(C)Z" } : Jvm.MethodName) method_4_code (1 : Nat) (Option.some Jvm.ClassFile.FieldType.boolean), Jvm.Cond.code ({ cls := "java/lang/String", name := "charAt", desc := "(I)C" } : Jvm.MethodName) jdk_42_method_56_code (2 : Nat) (Option.some Jvm.ClassFile.FieldType.char), Jvm.Cond.code ({ cls := "java/lang/String", name := "isLatin1", desc := "()Z" } : Jvm.MethodName) jdk_42_method_154_code (1 : Nat) (Option.some Jvm.ClassFile.FieldType.boolean), Jvm.Cond.code ({ cls := "java/lang/StringLatin1", name := "charAt", desc := "([BI)C" } : Jvm.MethodName) jdk_43_method_2_code (2 : Nat) (Option.some Jvm.ClassFile.FieldType.char), Jvm.Cond.code ({ cls := "java/lang/String", name := "checkIndex", desc := "(II)V" } : Jvm.MethodName) jdk_42_method_155_code (2 : Nat) (Option.none : Option Jvm.ClassFile.FieldType), Jvm.Cond.code ({ cls := "jdk/internal/util/Preconditions", name := "checkIndex", desc := "(IILjava/util/function/BiFunction;)I" } : Jvm.MethodName) jdk_41_method_11_code (3 : Nat) (Option.some Jvm.ClassFile.FieldType.int), Jvm.Cond.code ({ cls := "java/lang/Character", name := "isISOControl", desc := "(C)Z" } : Jvm.MethodName) jdk_89_method_88_code (1 : Nat) (Option.some Jvm.ClassFile.FieldType.boolean), Jvm.Cond.code ({ cls := "java/lang/Character", name := "isISOControl", desc := "(I)Z" } : Jvm.MethodName) jdk_89_method_89_code (1 : Nat) (Option.some Jvm.ClassFile.FieldType.boolean), Jvm.Cond.code ({ cls := "java/lang/StringUTF16", name := "toBytes", desc := "([CII)[B" } : Jvm.MethodName) jdk_52_method_14_code (5 : Nat) (Option.some (Jvm.ClassFile.FieldType.array Jvm.ClassFile.FieldType.byte)), Jvm.Cond.code ({ cls := "java/lang/StringUTF16", name := "newBytesFor", desc := "(I)[B" } : Jvm.MethodName) jdk_52_method_2_code (1 : Nat) (Option.some (Jvm.ClassFile.FieldType.array Jvm.ClassFile.FieldType.byte)), Jvm.Cond.code ({ cls := "java/lang/StringUTF16", name := "newBytesLength", desc := "(I)I" } : Jvm.MethodName) jdk_52_method_3_code (1 : Nat) (Option.some Jvm.ClassFile.FieldType.int), Jvm.Cond.code ({ cls := "java/lang/StringUTF16", name := "putChar", desc := "([BII)V" } : Jvm.MethodName) jdk_52_method_4_code (3 : Nat) (Option.none : Option Jvm.ClassFile.FieldType), Jvm.Cond.code ({ cls := "java/lang/StringUTF16", name := "getChar", desc := "([BI)C" } : Jvm.MethodName) jdk_52_method_5_code (2 : Nat) (Option.some Jvm.ClassFile.FieldType.char), Jvm.Cond.code ({ cls := "java/lang/StringUTF16", name := "charAt", desc := "([BI)C" } : Jvm.MethodName) jdk_52_method_83_code (2 : Nat) (Option.some Jvm.ClassFile.FieldType.char), Jvm.Cond.code ({ cls := "java/lang/StringUTF16", name := "checkIndex", desc := "(I[B)V" } : Jvm.MethodName) jdk_52_method_91_code (2 : Nat) (Option.none : Option Jvm.ClassFile.FieldType), Jvm.Cond.code ({ cls := "java/lang/StringUTF16", name := "length", desc := "([B)I" } : Jvm.MethodName) jdk_52_method_6_code (1 : Nat) (Option.some Jvm.ClassFile.FieldType.int)]
set_option maxRecDepth 65536 in
theorem codes_eq : words1.filter isCode = codes1 := rfl
theorem w_codes : ∀ c ∈ words1.filter isCode, c.before args0 about1 = true := by
  rw [codes_eq]
  intro c hc
  simp only [codes1, List.mem_cons, List.not_mem_nil, or_false] at hc
  rcases hc with rfl | rfl | rfl | rfl | rfl | rfl | rfl | rfl | rfl | rfl | rfl | rfl | rfl | rfl | rfl | rfl | rfl | rfl | rfl | rfl | rfl | rfl | rfl | rfl | rfl | rfl | rfl | rfl
  · exact w_c0
  · exact w_c1
  · exact w_c2
  · exact w_c3
  · exact w_c4
  · exact w_c5
  · exact w_c6
  · exact w_c7
  · exact w_c8
  · exact w_c9
  · exact w_c10
  · exact w_c11
  · exact w_c12
  · exact w_c13
  · exact w_c14
  · exact w_c15
  · exact w_c16
  · exact w_c17
  · exact w_c18
  · exact w_c19
  · exact w_c20
  · exact w_c21
  · exact w_c22
  · exact w_c23
  · exact w_c24
  · exact w_c25
  · exact w_c26
  · exact w_c27
set_option maxRecDepth 65536 in
theorem w_t1 : (words1.take 24).all (fun c => isCode c || c.before args0 about1) = true := by decide +kernel
set_option maxRecDepth 65536 in
theorem w_t2 : ((words1.drop 24).take 24).all (fun c => isCode c || c.before args0 about1) = true := by decide +kernel
set_option maxRecDepth 65536 in
theorem w_t3 : (((words1.drop 24).drop 24).take 24).all (fun c => isCode c || c.before args0 about1) = true := by decide +kernel
set_option maxRecDepth 65536 in
theorem w_t4 : ((((words1.drop 24).drop 24).drop 24).take 24).all (fun c => isCode c || c.before args0 about1) = true := by decide +kernel
set_option maxRecDepth 65536 in
theorem w_t5 : ((((words1.drop 24).drop 24).drop 24).drop 24).all (fun c => isCode c || c.before args0 about1) = true := by decide +kernel
theorem w_tables : (allAtoms (Jvm.Cond.code x code maxLocals ret :: tables_1)).before args0 about1 = true := by
  rw [allAtoms_all]
  show words1.all (fun c => c.before args0 about1) = true
  refine all_split ?_ w_codes
  rw [← List.take_append_drop 24 words1, List.all_append, w_t1, ← List.take_append_drop 24 (words1.drop 24), List.all_append, w_t2, ← List.take_append_drop 24 ((words1.drop 24).drop 24), List.all_append, w_t3, ← List.take_append_drop 24 (((words1.drop 24).drop 24).drop 24), List.all_append, w_t4, w_t5]
  rfl
set_option maxRecDepth 65536 in
theorem w_rest : rest_1_c.before args0 about1 = true := by decide +kernel
set_option maxRecDepth 65536 in
theorem w_case : (Jvm.Cond.and given_1 narrow_1).before args0 about1 = true := by decide +kernel
set_option maxRecDepth 65536 in
theorem w_consts : constsHeld consts_1 about1 := Jvm.Lit.constsHeldB_iff.mp (by decide +kernel)
theorem w_applies : (headSpec (Jvm.Cond.code x code maxLocals ret :: tables_1) room_1).applies x e0.platform about1 = true :=
  (Spec.applies_iff w_frames).mpr ⟨w_running, w_runnable, w_alone, w_named, w_hears, w_ripe, w_room, w_tables⟩
theorem atStart : AtStart classFile x code maxLocals ret World_1 tables_1 room_1 Calls_1 rest_1 Pre_1 launch0 p0 e0 about1 theMethod args0 below0 :=
  ⟨lists_1, trivial, launch0.admits_env _ _ _, launch0.least_env, fairChoices_fair.cas, fairChoices_fair.clock, w_frames, w_args, w_heap, w_applies, ⟨w_consts, trivial⟩, w_rest, w_case⟩
end start1
theorem witness_1 : WitnessClaimed_1 := ⟨start1.p0, start1.e0, start1.about1, start1.theMethod, start1.args0, start1.below0, start1.atStart⟩
end Jvm.Pilot.@@N@@
