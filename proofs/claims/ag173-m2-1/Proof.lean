import JvmDerived
import JvmDerived.Pilot.@@N@@Statement
import JvmDerived.Pilot.@@N@@Code
set_option linter.unusedVariables false
set_option linter.unusedSimpArgs false
namespace Jvm.Pilot.@@N@@
open Jvm Jvm.ClassFile Sem Op Lib Jvm.Free Jvm.Stand Jvm.LawKit Jvm.RoadKit Bundle Jvm.Pilot.@@N@@.Jvm.D
def own_Ends (tb : Tables) (e : Env) (below : List Frame) (P : Outcome → State → Prop) (S : State) : Prop := ∃ t o, Steps tb e below S t ∧ t.status = .running ∧ Ended t below o ∧ P o t
theorem own_to {tb : Tables} {e : Env} {below : List Frame} {P : Outcome → State → Prop} {S S' : State} (h : ∀ target, Steps tb e below S' target → Steps tb e below S target) (g : own_Ends tb e below P S') : own_Ends tb e below P S := by
  obtain ⟨t, o, h1, r⟩ := g
  exact ⟨t, o, h _ h1, r⟩
theorem own_tr {tb : Tables} {e : Env} {below : List Frame} {P : Outcome → State → Prop} {S S' : State} (h : Steps tb e below S S') (g : own_Ends tb e below P S') : own_Ends tb e below P S := by
  obtain ⟨t, o, h1, r⟩ := g
  exact ⟨t, o, h.trans h1, r⟩
theorem own_cast {tb : Tables} {e : Env} {below : List Frame} {P : Outcome → State → Prop} {T : State} {f f' : JFrame} (q : f = f') (g : own_Ends tb e below P (T.setTop f')) : own_Ends tb e below P (T.setTop f) := q ▸ g
def own_P (s : State) (Q : Option Value → Heap → List Loc → Prop) (ck sk : Nat) : Outcome → State → Prop := fun o U' => ∃ v L, o = .returned v ∧ Q v U'.heap L ∧ FrameEnd s o U' L ck sk
theorem own_leave {p : Program} {l : Launch} {e : Env} {R : Room} {s : State} {m : MethodId} {args : Array Value} {below : List Frame} {meth : Method} {c : Code} {T : State} {locs : List Loc} {cells slots : Nat} {F : JFrame} {Q : Option Value → Heap → List Loc → Prop} {ck sk : Nat}
    (X : Stand p l e R s m args below meth c T locs cells slots) {v : Option Value} (hv : meth.sig.returnType = none → v = none) (hQ : Q v T.heap locs) (hc : cells ≤ ck) (hs : slots ≤ sk)
    (hst : ∀ fs, (∀ (f : JFrame) (acts : List Action), f.method = m → f.locked = none → f.entered = [] → (doReturn e (T.setTop f) acts v).1 = T.setFrames fs) → Steps p.tables e below (T.setTop F) (T.setFrames fs)) (hlocks : meth.locks = false := by first | assumption | exact BodyLoose.notSynchronized (by assumption) | exact Body.notSynchronized (by assumption)) : own_Ends p.tables e below (own_P s Q ck sk) (T.setTop F) := by
  obtain ⟨fs, hr, hrun, hended, hW, hsame⟩ := X.leave hv hlocks
  exact ⟨_, _, hst fs hr, hrun, hended, _, _, rfl, hQ, ⟨_, rfl⟩, hW, hsame.mono hc hs⟩
def own_PW (s : State) (Q : Option Value → Heap → List Loc → Prop) (ck sk : Nat) : Outcome → State → Prop := fun o U' => ∃ v L, o = .returned v ∧ Q v U'.heap L ∧ ReturnedEndW s o U' L ck sk
theorem own_leaveW {p : Program} {l : Launch} {e : Env} {R : Room} {s : State} {vm1 : Vm} {m : MethodId} {args : Array Value} {below : List Frame} {meth : Method} {c : Code} {T : State} {locs : List Loc} {cells slots : Nat} {F : JFrame} {Q : Option Value → Heap → List Loc → Prop} {ck sk k0 : Nat}
    (X : Stand p l e R (s.setVm vm1) m args below meth c T locs cells slots) (hS : s.Since vm1 k0) (hk : k0 ≤ T.heap.size) {v : Option Value} (hv : meth.sig.returnType = none → v = none) (hQ : Q v T.heap locs) (hc : cells ≤ ck) (hs : slots ≤ sk)
    (hst : ∀ fs, (∀ (f : JFrame) (acts : List Action), f.method = m → f.locked = none → f.entered = [] → (doReturn e (T.setTop f) acts v).1 = T.setFrames fs) → Steps p.tables e below (T.setTop F) (T.setFrames fs)) (hlocks : meth.locks = false := by first | assumption | exact BodyLoose.notSynchronized (by assumption) | exact Body.notSynchronized (by assumption)) : own_Ends p.tables e below (own_PW s Q ck sk) (T.setTop F) := by
  obtain ⟨fs, hr, hrun, hended, h1, h2, h3, h4⟩ := X.leaveW hS hk hv hlocks
  exact ⟨_, _, hst fs hr, hrun, hended, _, _, rfl, hQ, h1, h2, h3, h4.mono hc hs⟩
theorem own_old_le {Z : State} {n0 : Nat} {h : Heap} (O : Old Z n0 h) : n0 ≤ h.size := O.1 ▸ O.2.1
theorem own_le {a b : Nat} (h : Nat.ble a b = true) : a ≤ b := Nat.le_of_ble_eq_true h
theorem own_lt {a b : Nat} (h : Nat.ble (a + 1) b = true) : a < b := Nat.le_of_ble_eq_true h
theorem own_fr {n0 : Nat} {L A B : List Loc} (q : L = A ++ B) (a : Fr n0 A) (b : Fr n0 B) : Fr n0 L := by rw [q]; exact Fr.app a b
theorem own_irr (x : Int32) : ¬ x < x := by rw [Int32.lt_iff_toInt_lt]; omega
theorem own_eqI {args : Array Value} {s : State} {t : Term} {k : Int32} (h : (Jvm.Cond.eq t (.int k)).value args s none s [] = some true) : t.eval args s none [] s = some (.int k) := by
  obtain ⟨x, y, hx, hy, -, hk⟩ := cmp_v (Or.inl h)
  cases (show some (Value.int k) = some y from hy)
  obtain ⟨z, rfl⟩ := hk
  have e : (Term.int k).eval args s none [] s = some (.int k) := rfl
  simp only [Cond.value, hx, e, Option.some.injEq, decide_eq_true_eq] at h
  rw [hx]
  simp_all
theorem own_intne {a b : Int32} (h : a ≠ b) : Value.int a ≠ Value.int b := fun q => h (Value.int.inj q)

abbrev oM0 : MethodName := ⟨"com/example/latmere/latmere/spatial/GeometryType", "isCurve", "()Z"⟩
theorem ow0 {Z : State} {a0 : Array Value} (hw : ∀ d ∈ tables_1, d.before a0 Z = true) : (Jvm.Cond.constant "com/example/latmere/latmere/spatial/GeometryTypeIsCurvePinLaw" (7 : Nat) (2147483647 : Int32)).before a0 Z = true := hw _ (List.mem_of_getElem? (i := 0) rfl)
theorem ow1 {Z : State} {a0 : Array Value} (hw : ∀ d ∈ tables_1, d.before a0 Z = true) : (Jvm.Cond.classLink "com/example/latmere/latmere/spatial/GeometryTypeIsCurvePinLaw" (8 : Nat) "com/example/latmere/latmere/spatial/GeometryType").before a0 Z = true := hw _ (List.mem_of_getElem? (i := 1) rfl)
theorem ow2 {Z : State} {a0 : Array Value} (hw : ∀ d ∈ tables_1, d.before a0 Z = true) : (Jvm.Cond.arrayOver (Jvm.ClassFile.FieldType.object "com/example/latmere/latmere/spatial/GeometryType")).before a0 Z = true := hw _ (List.mem_of_getElem? (i := 2) rfl)
theorem ow3 {Z : State} {a0 : Array Value} (hw : ∀ d ∈ tables_1, d.before a0 Z = true) : (Jvm.Cond.fieldLink "com/example/latmere/latmere/spatial/GeometryTypeIsCurvePinLaw" (10 : Nat) "com/example/latmere/latmere/spatial/GeometryType" "POINT" "Lcom/example/latmere/latmere/spatial/GeometryType;").before a0 Z = true := hw _ (List.mem_of_getElem? (i := 3) rfl)
theorem ow4 {Z : State} {a0 : Array Value} (hw : ∀ d ∈ tables_1, d.before a0 Z = true) : (Jvm.Cond.initialized "com/example/latmere/latmere/spatial/GeometryType").before a0 Z = true := hw _ (List.mem_of_getElem? (i := 4) rfl)
theorem ow5 {Z : State} {a0 : Array Value} (hw : ∀ d ∈ tables_1, d.before a0 Z = true) : (Jvm.Cond.laysStatic "com/example/latmere/latmere/spatial/GeometryType" "POINT" "Lcom/example/latmere/latmere/spatial/GeometryType;").before a0 Z = true := hw _ (List.mem_of_getElem? (i := 5) rfl)
theorem ow7 {Z : State} {a0 : Array Value} (hw : ∀ d ∈ tables_1, d.before a0 Z = true) : (Jvm.Cond.fieldLink "com/example/latmere/latmere/spatial/GeometryTypeIsCurvePinLaw" (14 : Nat) "com/example/latmere/latmere/spatial/GeometryType" "LINESTRING" "Lcom/example/latmere/latmere/spatial/GeometryType;").before a0 Z = true := hw _ (List.mem_of_getElem? (i := 7) rfl)
theorem ow8 {Z : State} {a0 : Array Value} (hw : ∀ d ∈ tables_1, d.before a0 Z = true) : (Jvm.Cond.laysStatic "com/example/latmere/latmere/spatial/GeometryType" "LINESTRING" "Lcom/example/latmere/latmere/spatial/GeometryType;").before a0 Z = true := hw _ (List.mem_of_getElem? (i := 8) rfl)
theorem ow9 {Z : State} {a0 : Array Value} (hw : ∀ d ∈ tables_1, d.before a0 Z = true) : (Jvm.Cond.fieldLink "com/example/latmere/latmere/spatial/GeometryTypeIsCurvePinLaw" (17 : Nat) "com/example/latmere/latmere/spatial/GeometryType" "POLYGON" "Lcom/example/latmere/latmere/spatial/GeometryType;").before a0 Z = true := hw _ (List.mem_of_getElem? (i := 9) rfl)
theorem ow10 {Z : State} {a0 : Array Value} (hw : ∀ d ∈ tables_1, d.before a0 Z = true) : (Jvm.Cond.laysStatic "com/example/latmere/latmere/spatial/GeometryType" "POLYGON" "Lcom/example/latmere/latmere/spatial/GeometryType;").before a0 Z = true := hw _ (List.mem_of_getElem? (i := 10) rfl)
theorem ow11 {Z : State} {a0 : Array Value} (hw : ∀ d ∈ tables_1, d.before a0 Z = true) : (Jvm.Cond.fieldLink "com/example/latmere/latmere/spatial/GeometryTypeIsCurvePinLaw" (20 : Nat) "com/example/latmere/latmere/spatial/GeometryType" "MULTIPOINT" "Lcom/example/latmere/latmere/spatial/GeometryType;").before a0 Z = true := hw _ (List.mem_of_getElem? (i := 11) rfl)
theorem ow12 {Z : State} {a0 : Array Value} (hw : ∀ d ∈ tables_1, d.before a0 Z = true) : (Jvm.Cond.laysStatic "com/example/latmere/latmere/spatial/GeometryType" "MULTIPOINT" "Lcom/example/latmere/latmere/spatial/GeometryType;").before a0 Z = true := hw _ (List.mem_of_getElem? (i := 12) rfl)
theorem ow13 {Z : State} {a0 : Array Value} (hw : ∀ d ∈ tables_1, d.before a0 Z = true) : (Jvm.Cond.fieldLink "com/example/latmere/latmere/spatial/GeometryTypeIsCurvePinLaw" (23 : Nat) "com/example/latmere/latmere/spatial/GeometryType" "MULTILINESTRING" "Lcom/example/latmere/latmere/spatial/GeometryType;").before a0 Z = true := hw _ (List.mem_of_getElem? (i := 13) rfl)
theorem ow14 {Z : State} {a0 : Array Value} (hw : ∀ d ∈ tables_1, d.before a0 Z = true) : (Jvm.Cond.laysStatic "com/example/latmere/latmere/spatial/GeometryType" "MULTILINESTRING" "Lcom/example/latmere/latmere/spatial/GeometryType;").before a0 Z = true := hw _ (List.mem_of_getElem? (i := 14) rfl)
theorem ow15 {Z : State} {a0 : Array Value} (hw : ∀ d ∈ tables_1, d.before a0 Z = true) : (Jvm.Cond.fieldLink "com/example/latmere/latmere/spatial/GeometryTypeIsCurvePinLaw" (26 : Nat) "com/example/latmere/latmere/spatial/GeometryType" "MULTIPOLYGON" "Lcom/example/latmere/latmere/spatial/GeometryType;").before a0 Z = true := hw _ (List.mem_of_getElem? (i := 15) rfl)
theorem ow16 {Z : State} {a0 : Array Value} (hw : ∀ d ∈ tables_1, d.before a0 Z = true) : (Jvm.Cond.laysStatic "com/example/latmere/latmere/spatial/GeometryType" "MULTIPOLYGON" "Lcom/example/latmere/latmere/spatial/GeometryType;").before a0 Z = true := hw _ (List.mem_of_getElem? (i := 16) rfl)
theorem ow17 {Z : State} {a0 : Array Value} (hw : ∀ d ∈ tables_1, d.before a0 Z = true) : (Jvm.Cond.fieldLink "com/example/latmere/latmere/spatial/GeometryTypeIsCurvePinLaw" (29 : Nat) "com/example/latmere/latmere/spatial/GeometryType" "GEOMETRYCOLLECTION" "Lcom/example/latmere/latmere/spatial/GeometryType;").before a0 Z = true := hw _ (List.mem_of_getElem? (i := 17) rfl)
theorem ow18 {Z : State} {a0 : Array Value} (hw : ∀ d ∈ tables_1, d.before a0 Z = true) : (Jvm.Cond.laysStatic "com/example/latmere/latmere/spatial/GeometryType" "GEOMETRYCOLLECTION" "Lcom/example/latmere/latmere/spatial/GeometryType;").before a0 Z = true := hw _ (List.mem_of_getElem? (i := 18) rfl)
theorem ow19 {Z : State} {a0 : Array Value} (hw : ∀ d ∈ tables_1, d.before a0 Z = true) : (Jvm.Cond.fieldLink "com/example/latmere/latmere/spatial/GeometryTypeIsCurvePinLaw" (32 : Nat) "com/example/latmere/latmere/spatial/GeometryType" "CIRCULARSTRING" "Lcom/example/latmere/latmere/spatial/GeometryType;").before a0 Z = true := hw _ (List.mem_of_getElem? (i := 19) rfl)
theorem ow20 {Z : State} {a0 : Array Value} (hw : ∀ d ∈ tables_1, d.before a0 Z = true) : (Jvm.Cond.laysStatic "com/example/latmere/latmere/spatial/GeometryType" "CIRCULARSTRING" "Lcom/example/latmere/latmere/spatial/GeometryType;").before a0 Z = true := hw _ (List.mem_of_getElem? (i := 20) rfl)
theorem ow21 {Z : State} {a0 : Array Value} (hw : ∀ d ∈ tables_1, d.before a0 Z = true) : (Jvm.Cond.fieldLink "com/example/latmere/latmere/spatial/GeometryTypeIsCurvePinLaw" (35 : Nat) "com/example/latmere/latmere/spatial/GeometryType" "COMPOUNDCURVE" "Lcom/example/latmere/latmere/spatial/GeometryType;").before a0 Z = true := hw _ (List.mem_of_getElem? (i := 21) rfl)
theorem ow22 {Z : State} {a0 : Array Value} (hw : ∀ d ∈ tables_1, d.before a0 Z = true) : (Jvm.Cond.laysStatic "com/example/latmere/latmere/spatial/GeometryType" "COMPOUNDCURVE" "Lcom/example/latmere/latmere/spatial/GeometryType;").before a0 Z = true := hw _ (List.mem_of_getElem? (i := 22) rfl)
theorem ow23 {Z : State} {a0 : Array Value} (hw : ∀ d ∈ tables_1, d.before a0 Z = true) : (Jvm.Cond.fieldLink "com/example/latmere/latmere/spatial/GeometryTypeIsCurvePinLaw" (38 : Nat) "com/example/latmere/latmere/spatial/GeometryType" "CURVEPOLYGON" "Lcom/example/latmere/latmere/spatial/GeometryType;").before a0 Z = true := hw _ (List.mem_of_getElem? (i := 23) rfl)
theorem ow24 {Z : State} {a0 : Array Value} (hw : ∀ d ∈ tables_1, d.before a0 Z = true) : (Jvm.Cond.laysStatic "com/example/latmere/latmere/spatial/GeometryType" "CURVEPOLYGON" "Lcom/example/latmere/latmere/spatial/GeometryType;").before a0 Z = true := hw _ (List.mem_of_getElem? (i := 24) rfl)
theorem ow25 {Z : State} {a0 : Array Value} (hw : ∀ d ∈ tables_1, d.before a0 Z = true) : (Jvm.Cond.fieldLink "com/example/latmere/latmere/spatial/GeometryTypeIsCurvePinLaw" (41 : Nat) "com/example/latmere/latmere/spatial/GeometryType" "MULTICURVE" "Lcom/example/latmere/latmere/spatial/GeometryType;").before a0 Z = true := hw _ (List.mem_of_getElem? (i := 25) rfl)
theorem ow26 {Z : State} {a0 : Array Value} (hw : ∀ d ∈ tables_1, d.before a0 Z = true) : (Jvm.Cond.laysStatic "com/example/latmere/latmere/spatial/GeometryType" "MULTICURVE" "Lcom/example/latmere/latmere/spatial/GeometryType;").before a0 Z = true := hw _ (List.mem_of_getElem? (i := 26) rfl)
theorem ow27 {Z : State} {a0 : Array Value} (hw : ∀ d ∈ tables_1, d.before a0 Z = true) : (Jvm.Cond.fieldLink "com/example/latmere/latmere/spatial/GeometryTypeIsCurvePinLaw" (44 : Nat) "com/example/latmere/latmere/spatial/GeometryType" "MULTISURFACE" "Lcom/example/latmere/latmere/spatial/GeometryType;").before a0 Z = true := hw _ (List.mem_of_getElem? (i := 27) rfl)
theorem ow28 {Z : State} {a0 : Array Value} (hw : ∀ d ∈ tables_1, d.before a0 Z = true) : (Jvm.Cond.laysStatic "com/example/latmere/latmere/spatial/GeometryType" "MULTISURFACE" "Lcom/example/latmere/latmere/spatial/GeometryType;").before a0 Z = true := hw _ (List.mem_of_getElem? (i := 28) rfl)
theorem ow29 {Z : State} {a0 : Array Value} (hw : ∀ d ∈ tables_1, d.before a0 Z = true) : (Jvm.Cond.arrayClass Jvm.ClassFile.FieldType.boolean).before a0 Z = true := hw _ (List.mem_of_getElem? (i := 29) rfl)
theorem ow30 {Z : State} {a0 : Array Value} (hw : ∀ d ∈ tables_1, d.before a0 Z = true) : (Jvm.Cond.methodLink "com/example/latmere/latmere/spatial/GeometryTypeIsCurvePinLaw" (47 : Nat) ({ cls := "com/example/latmere/latmere/spatial/GeometryType", name := "isCurve", desc := "()Z" } : Jvm.MethodName)).before a0 Z = true := hw _ (List.mem_of_getElem? (i := 30) rfl)
theorem ow31 {Z : State} {a0 : Array Value} (hw : ∀ d ∈ tables_1, d.before a0 Z = true) : (Jvm.Cond.declares ({ cls := "com/example/latmere/latmere/spatial/GeometryType", name := "isCurve", desc := "()Z" } : Jvm.MethodName)).before a0 Z = true := hw _ (List.mem_of_getElem? (i := 31) rfl)
theorem ow32 {Z : State} {a0 : Array Value} (hw : ∀ d ∈ tables_1, d.before a0 Z = true) : (Jvm.Cond.instanceMethod ({ cls := "com/example/latmere/latmere/spatial/GeometryType", name := "isCurve", desc := "()Z" } : Jvm.MethodName)).before a0 Z = true := hw _ (List.mem_of_getElem? (i := 32) rfl)
theorem ow33 {Z : State} {a0 : Array Value} (hw : ∀ d ∈ tables_1, d.before a0 Z = true) : (Jvm.Cond.selects "com/example/latmere/latmere/spatial/GeometryType" ({ cls := "com/example/latmere/latmere/spatial/GeometryType", name := "isCurve", desc := "()Z" } : Jvm.MethodName) ({ cls := "com/example/latmere/latmere/spatial/GeometryType", name := "isCurve", desc := "()Z" } : Jvm.MethodName)).before a0 Z = true := hw _ (List.mem_of_getElem? (i := 33) rfl)
theorem ow34 {Z : State} {a0 : Array Value} (hw : ∀ d ∈ tables_1, d.before a0 Z = true) : (Jvm.Cond.code ({ cls := "com/example/latmere/latmere/spatial/GeometryType", name := "isCurve", desc := "()Z" } : Jvm.MethodName) prog_35_method_7_code (1 : Nat) (Option.some Jvm.ClassFile.FieldType.boolean)).before a0 Z = true := hw _ (List.mem_of_getElem? (i := 34) rfl)
theorem ow35 {Z : State} {a0 : Array Value} (hw : ∀ d ∈ tables_1, d.before a0 Z = true) : (Jvm.Cond.fieldLink "com/example/latmere/latmere/spatial/GeometryType" (7 : Nat) "com/example/latmere/latmere/spatial/GeometryType" "LINESTRING" "Lcom/example/latmere/latmere/spatial/GeometryType;").before a0 Z = true := hw _ (List.mem_of_getElem? (i := 35) rfl)
theorem ow36 {Z : State} {a0 : Array Value} (hw : ∀ d ∈ tables_1, d.before a0 Z = true) : (Jvm.Cond.fieldLink "com/example/latmere/latmere/spatial/GeometryType" (25 : Nat) "com/example/latmere/latmere/spatial/GeometryType" "CIRCULARSTRING" "Lcom/example/latmere/latmere/spatial/GeometryType;").before a0 Z = true := hw _ (List.mem_of_getElem? (i := 36) rfl)
theorem ow37 {Z : State} {a0 : Array Value} (hw : ∀ d ∈ tables_1, d.before a0 Z = true) : (Jvm.Cond.fieldLink "com/example/latmere/latmere/spatial/GeometryType" (28 : Nat) "com/example/latmere/latmere/spatial/GeometryType" "COMPOUNDCURVE" "Lcom/example/latmere/latmere/spatial/GeometryType;").before a0 Z = true := hw _ (List.mem_of_getElem? (i := 37) rfl)
theorem own_mod12 (x : Int32) : (x &&& (2147483647 : Int32)) % (12 : Int32) = 0 ∨ (x &&& (2147483647 : Int32)) % (12 : Int32) = 1 ∨ (x &&& (2147483647 : Int32)) % (12 : Int32) = 2 ∨ (x &&& (2147483647 : Int32)) % (12 : Int32) = 3 ∨ (x &&& (2147483647 : Int32)) % (12 : Int32) = 4 ∨ (x &&& (2147483647 : Int32)) % (12 : Int32) = 5 ∨ (x &&& (2147483647 : Int32)) % (12 : Int32) = 6 ∨ (x &&& (2147483647 : Int32)) % (12 : Int32) = 7 ∨ (x &&& (2147483647 : Int32)) % (12 : Int32) = 8 ∨ (x &&& (2147483647 : Int32)) % (12 : Int32) = 9 ∨ (x &&& (2147483647 : Int32)) % (12 : Int32) = 10 ∨ (x &&& (2147483647 : Int32)) % (12 : Int32) = 11 := by
  have h := c_and x 2147483647 (by decide)
  have g := (c_irem (x &&& 2147483647) 12 12 (by decide)).1 h.1
  simp only [← Int32.toInt_inj, show (0 : Int32).toInt = 0 by decide, show (1 : Int32).toInt = 1 by decide, show (2 : Int32).toInt = 2 by decide, show (3 : Int32).toInt = 3 by decide, show (4 : Int32).toInt = 4 by decide, show (5 : Int32).toInt = 5 by decide, show (6 : Int32).toInt = 6 by decide, show (7 : Int32).toInt = 7 by decide, show (8 : Int32).toInt = 8 by decide, show (9 : Int32).toInt = 9 by decide, show (10 : Int32).toInt = 10 by decide, show (11 : Int32).toInt = 11 by decide]
  omega
def own_is (a d0 d1 d2 : Addr) : Int32 := if a = d0 ∨ a = d1 ∨ a = d2 then 1 else 0
theorem own_is_no {a d0 d1 d2 : Addr} (hd0 : a ≠ d0) (hd1 : a ≠ d1) (hd2 : a ≠ d2) : own_is a d0 d1 d2 = 0 := by simp [own_is, hd0, hd1, hd2]
theorem own_is_yes {a d0 d1 d2 : Addr} (h : a = d0 ∨ a = d1 ∨ a = d2) : own_is a d0 d1 d2 = 1 := if_pos h
theorem d1_0 : decode prog_35_method_7_code 0 = .ok (.aload_n 0, 1) := by decide +kernel
theorem d1_1 : decode prog_35_method_7_code 1 = .ok (.getstatic 7, 3) := by decide +kernel
theorem d1_4 : decode prog_35_method_7_code 4 = .ok (.if_acmp .eq 17, 3) := by decide +kernel
theorem d1_7 : decode prog_35_method_7_code 7 = .ok (.aload_n 0, 1) := by decide +kernel
theorem d1_8 : decode prog_35_method_7_code 8 = .ok (.getstatic 25, 3) := by decide +kernel
theorem d1_11 : decode prog_35_method_7_code 11 = .ok (.if_acmp .eq 10, 3) := by decide +kernel
theorem d1_14 : decode prog_35_method_7_code 14 = .ok (.aload_n 0, 1) := by decide +kernel
theorem d1_15 : decode prog_35_method_7_code 15 = .ok (.getstatic 28, 3) := by decide +kernel
theorem d1_18 : decode prog_35_method_7_code 18 = .ok (.if_acmp .ne 7, 3) := by decide +kernel
theorem d1_21 : decode prog_35_method_7_code 21 = .ok (.iconst 1, 1) := by decide +kernel
theorem d1_22 : decode prog_35_method_7_code 22 = .ok (.goto 4, 3) := by decide +kernel
theorem d1_25 : decode prog_35_method_7_code 25 = .ok (.iconst 0, 1) := by decide +kernel
theorem d1_26 : decode prog_35_method_7_code 26 = .ok (.ireturn, 1) := by decide +kernel
theorem pn_1 : plainName "com/example/latmere/latmere/spatial/GeometryType" = true := by first | (simp [plainName, overriddenIn]; done) | decide +kernel
theorem ef_rm2 (m : MethodId) (a : Addr) : entryFrame m #[(.ref a)] 1 = mkF m 0 #[.val (.ref a)] [] := by first | (simp [entryFrame, mkF, argsToLocals, Value.category]; done) | rfl | (rcases ref_cases hrf with rfl | ⟨q, rfl⟩ <;> rfl)
def Q_rm2 (Z : State) (a : Addr) (c1 : Addr) (c7 : Addr) (c8 : Addr) (h0 : Heap) (n0 : Nat) (v : Option Value) (h : Heap) (L : List Loc) : Prop := v = some (.int (own_is a c1 c7 c8)) ∧ Fr n0 L ∧ h = h0
set_option maxRecDepth 65536 in
set_option maxHeartbeats 40000000 in
theorem rm2 (l : Launch) (Z : State) (a0 : Array Value) (hw : ∀ d ∈ tables_1, d.before a0 Z = true) (ws : List Jvm.Cond) (a : Addr) (c1 : Addr) (c7 : Addr) (c8 : Addr) (h0 : Heap) (n0 : Nat) (O0 : Old Z n0 h0) (S_c1 : Sta Z Z.heap "com/example/latmere/latmere/spatial/GeometryType" "LINESTRING" "Lcom/example/latmere/latmere/spatial/GeometryType;" (.ref c1)) (S_c7 : Sta Z Z.heap "com/example/latmere/latmere/spatial/GeometryType" "CIRCULARSTRING" "Lcom/example/latmere/latmere/spatial/GeometryType;" (.ref c7)) (S_c8 : Sta Z Z.heap "com/example/latmere/latmere/spatial/GeometryType" "COMPOUNDCURVE" "Lcom/example/latmere/latmere/spatial/GeometryType;" (.ref c8)) :
    MetFree l oM0 (head1 (Jvm.Cond.code oM0 prog_35_method_7_code 1 (some .boolean) :: ws) ({ frames := 0, cells := 0, slots := 0, locals := 0 } : Room)) (fun aq_ U => aq_ = #[(.ref a)] ∧ Z.Warmed39 U.vm ∧ U.heap = h0) (fun _ _ _ _ _ => True) (fun _ U o U' => ∃ v L, o = .returned v ∧ Q_rm2 Z a c1 c7 c8 h0 n0 v U'.heap L ∧ FrameEnd U o U' L ({ frames := 0, cells := 0, slots := 0, locals := 0 } : Room).cells ({ frames := 0, cells := 0, slots := 0, locals := 0 } : Room).slots) := by
  refine MetFree.of_bodySF (plainFor_of_name pn_1) hisR ?_
  intro p e s m args below meth c s₁ Bd hml0 hP hK
  obtain ⟨rfl, hZ, hh⟩ := hP
  have hx := Bd.exec
  have hby := Bd.bytes
  have hml : c.maxLocals = 1 := hml0
  have hown : s.vm.findClass "com/example/latmere/latmere/spatial/GeometryType" = some m.cls := findClass_of_methodNamed Bd.named
  have hnm := (name_of_methodNamed Bd.named Bd.method).1
  have X0 : Stand p l e ({ frames := 0, cells := 0, slots := 0, locals := 0 } : Room) s m #[(.ref a)] below meth c s₁ [] 0 0 := Stand.of_body Bd
  have e0 : s₁.heap = h0 := by rw [← hh, Bd.state]; rfl
  have N0 := Fr.nil n0
  show own_Ends p.tables e below (own_P s (Q_rm2 Z a c1 c7 c8 h0 n0) ({ frames := 0, cells := 0, slots := 0, locals := 0 } : Room).cells ({ frames := 0, cells := 0, slots := 0, locals := 0 } : Room).slots) _
  refine own_cast (ef_rm2 m a) ?_
  show own_Ends _ _ _ _ (s₁.setTop (mkF m 0 #[.val (.ref a)] []))
  refine own_to (fun _ kont => XS.aloadN X0.here hx rfl (hb hby d1_0) rfl rfl kont) ?_
  show own_Ends _ _ _ _ (s₁.setTop (mkF m 1 #[.val (.ref a)] [(.ref a)]))
  obtain ⟨T1, X1, e1, st1⟩ := getS2 X0 hx hZ hown (host := "") (Or.inl (ow35 hw)) Via.refl e0 (S_c1.ext O0.2) (g := (mkF m 1 #[.val (.ref a)] [(.ref a)])) rfl (hb hby d1_1)
  refine own_to st1 ?_
  show own_Ends _ _ _ _ (T1.setTop (mkF m 4 #[.val (.ref a)] [(.ref c1), (.ref a)]))
  by_cases hc4_2 : a = c1
  · -- pc 4
    refine own_to (fun _ kont => Jvm.RoadKit.acmp (g := (mkF m 4 #[.val (.ref a)] [(.ref c1), (.ref a)])) X1 hx rfl rfl rfl (pc0 := 4) (pc' := 21) (same := true) rfl (hb hby d1_4) rfl (decide_eq_true (congrArg Value.ref hc4_2)) (by decide) (by decide) kont) ?_
    show own_Ends _ _ _ _ (T1.setTop (mkF m 21 #[.val (.ref a)] []))
    refine own_to (fun _ kont => XS.iconst X1.here hx rfl (hb hby d1_21) kont) ?_
    show own_Ends _ _ _ _ (T1.setTop (mkF m 22 #[.val (.ref a)] [(.int 1)]))
    refine own_to (fun _ kont => XS.goto X1.here hx rfl (pc0 := 22) (pc' := 26) rfl (hb hby d1_22) (by decide) (by decide) kont) ?_
    show own_Ends _ _ _ _ (T1.setTop (mkF m 26 #[.val (.ref a)] [(.int 1)]))
    refine own_leave X1 (v := some (.int (1 : Int32))) (fun h => by rw [Bd.returns] at h; cases h) ?_ (by decide) (by decide) (fun fs hr => retN X1 hx (t := .boolean) Bd.returns (by simp) (hb hby d1_26) hr)
    show Q_rm2 Z a c1 c7 c8 h0 n0 _ T1.heap _
    rw [e1]
    exact ⟨by simp [own_is, *], N0, rfl⟩
  · -- pc 4
    refine own_to (fun _ kont => Jvm.RoadKit.acmp (g := (mkF m 4 #[.val (.ref a)] [(.ref c1), (.ref a)])) X1 hx rfl rfl rfl (pc0 := 4) (pc' := 7) (same := false) rfl (hb hby d1_4) rfl (decide_eq_false fun q => hc4_2 (Value.ref.inj q)) (by decide) (by decide) kont) ?_
    show own_Ends _ _ _ _ (T1.setTop (mkF m 7 #[.val (.ref a)] []))
    refine own_to (fun _ kont => XS.aloadN X1.here hx rfl (hb hby d1_7) rfl rfl kont) ?_
    show own_Ends _ _ _ _ (T1.setTop (mkF m 8 #[.val (.ref a)] [(.ref a)]))
    obtain ⟨T3, X3, e3, st3⟩ := getS2 X1 hx hZ hown (host := "") (Or.inl (ow36 hw)) Via.refl e1 (S_c7.ext O0.2) (g := (mkF m 8 #[.val (.ref a)] [(.ref a)])) rfl (hb hby d1_8)
    refine own_to st3 ?_
    show own_Ends _ _ _ _ (T3.setTop (mkF m 11 #[.val (.ref a)] [(.ref c7), (.ref a)]))
    by_cases hc11_4 : a = c7
    · -- pc 11
      refine own_to (fun _ kont => Jvm.RoadKit.acmp (g := (mkF m 11 #[.val (.ref a)] [(.ref c7), (.ref a)])) X3 hx rfl rfl rfl (pc0 := 11) (pc' := 21) (same := true) rfl (hb hby d1_11) rfl (decide_eq_true (congrArg Value.ref hc11_4)) (by decide) (by decide) kont) ?_
      show own_Ends _ _ _ _ (T3.setTop (mkF m 21 #[.val (.ref a)] []))
      refine own_to (fun _ kont => XS.iconst X3.here hx rfl (hb hby d1_21) kont) ?_
      show own_Ends _ _ _ _ (T3.setTop (mkF m 22 #[.val (.ref a)] [(.int 1)]))
      refine own_to (fun _ kont => XS.goto X3.here hx rfl (pc0 := 22) (pc' := 26) rfl (hb hby d1_22) (by decide) (by decide) kont) ?_
      show own_Ends _ _ _ _ (T3.setTop (mkF m 26 #[.val (.ref a)] [(.int 1)]))
      refine own_leave X3 (v := some (.int (1 : Int32))) (fun h => by rw [Bd.returns] at h; cases h) ?_ (by decide) (by decide) (fun fs hr => retN X3 hx (t := .boolean) Bd.returns (by simp) (hb hby d1_26) hr)
      show Q_rm2 Z a c1 c7 c8 h0 n0 _ T3.heap _
      rw [e3]
      exact ⟨by simp [own_is, *], N0, rfl⟩
    · -- pc 11
      refine own_to (fun _ kont => Jvm.RoadKit.acmp (g := (mkF m 11 #[.val (.ref a)] [(.ref c7), (.ref a)])) X3 hx rfl rfl rfl (pc0 := 11) (pc' := 14) (same := false) rfl (hb hby d1_11) rfl (decide_eq_false fun q => hc11_4 (Value.ref.inj q)) (by decide) (by decide) kont) ?_
      show own_Ends _ _ _ _ (T3.setTop (mkF m 14 #[.val (.ref a)] []))
      refine own_to (fun _ kont => XS.aloadN X3.here hx rfl (hb hby d1_14) rfl rfl kont) ?_
      show own_Ends _ _ _ _ (T3.setTop (mkF m 15 #[.val (.ref a)] [(.ref a)]))
      obtain ⟨T5, X5, e5, st5⟩ := getS2 X3 hx hZ hown (host := "") (Or.inl (ow37 hw)) Via.refl e3 (S_c8.ext O0.2) (g := (mkF m 15 #[.val (.ref a)] [(.ref a)])) rfl (hb hby d1_15)
      refine own_to st5 ?_
      show own_Ends _ _ _ _ (T5.setTop (mkF m 18 #[.val (.ref a)] [(.ref c8), (.ref a)]))
      by_cases hc18_6 : a = c8
      · -- pc 18
        refine own_to (fun _ kont => Jvm.RoadKit.acmp (g := (mkF m 18 #[.val (.ref a)] [(.ref c8), (.ref a)])) X5 hx rfl rfl rfl (pc0 := 18) (pc' := 21) (same := true) rfl (hb hby d1_18) rfl (decide_eq_true (congrArg Value.ref hc18_6)) (by decide) (by decide) kont) ?_
        show own_Ends _ _ _ _ (T5.setTop (mkF m 21 #[.val (.ref a)] []))
        refine own_to (fun _ kont => XS.iconst X5.here hx rfl (hb hby d1_21) kont) ?_
        show own_Ends _ _ _ _ (T5.setTop (mkF m 22 #[.val (.ref a)] [(.int 1)]))
        refine own_to (fun _ kont => XS.goto X5.here hx rfl (pc0 := 22) (pc' := 26) rfl (hb hby d1_22) (by decide) (by decide) kont) ?_
        show own_Ends _ _ _ _ (T5.setTop (mkF m 26 #[.val (.ref a)] [(.int 1)]))
        refine own_leave X5 (v := some (.int (1 : Int32))) (fun h => by rw [Bd.returns] at h; cases h) ?_ (by decide) (by decide) (fun fs hr => retN X5 hx (t := .boolean) Bd.returns (by simp) (hb hby d1_26) hr)
        show Q_rm2 Z a c1 c7 c8 h0 n0 _ T5.heap _
        rw [e5]
        exact ⟨by simp [own_is, *], N0, rfl⟩
      · -- pc 18
        refine own_to (fun _ kont => Jvm.RoadKit.acmp (g := (mkF m 18 #[.val (.ref a)] [(.ref c8), (.ref a)])) X5 hx rfl rfl rfl (pc0 := 18) (pc' := 25) (same := false) rfl (hb hby d1_18) rfl (decide_eq_false fun q => hc18_6 (Value.ref.inj q)) (by decide) (by decide) kont) ?_
        show own_Ends _ _ _ _ (T5.setTop (mkF m 25 #[.val (.ref a)] []))
        refine own_to (fun _ kont => XS.iconst X5.here hx rfl (hb hby d1_25) kont) ?_
        show own_Ends _ _ _ _ (T5.setTop (mkF m 26 #[.val (.ref a)] [(.int 0)]))
        refine own_leave X5 (v := some (.int (0 : Int32))) (fun h => by rw [Bd.returns] at h; cases h) ?_ (by decide) (by decide) (fun fs hr => retN X5 hx (t := .boolean) Bd.returns (by simp) (hb hby d1_26) hr)
        show Q_rm2 Z a c1 c7 c8 h0 n0 _ T5.heap _
        rw [e5]
        exact ⟨by simp [own_is, *], N0, rfl⟩
theorem pn_0 : plainName "com/example/latmere/latmere/spatial/GeometryTypeIsCurvePinLaw" = true := by first | (simp [plainName, overriddenIn]; done) | decide +kernel
theorem pd_0 : parseMethodDescriptor "()Z" = some ⟨[], some .boolean⟩ := by decide +kernel
theorem ef_rm0 (m : MethodId) (z1 : Int32) : entryFrame m #[(.int z1)] maxLocals = mkF m 0 #[.val (.int z1), .unset, .unset, .unset] [] := by first | (simp [entryFrame, mkF, argsToLocals, Value.category, maxLocals]; done) | rfl | (rcases ref_cases hrf with rfl | ⟨q, rfl⟩ <;> rfl)
def Q_rm0 (Z : State) (z1 : Int32) (c0 : Addr) (c1 : Addr) (c2 : Addr) (c3 : Addr) (c4 : Addr) (c5 : Addr) (c6 : Addr) (c7 : Addr) (c8 : Addr) (c9 : Addr) (c10 : Addr) (c11 : Addr) (h0 : Heap) (n0 : Nat) (v : Option Value) (h : Heap) (L : List Loc) : Prop := v = some (.int 1) ∧ Fr n0 L
set_option maxRecDepth 65536 in
set_option maxHeartbeats 40000000 in
theorem rm0 (l : Launch) (Z : State) (a0 : Array Value) (hw : ∀ d ∈ tables_1, d.before a0 Z = true) (ws : List Jvm.Cond) (z1 : Int32) (c0 : Addr) (c1 : Addr) (c2 : Addr) (c3 : Addr) (c4 : Addr) (c5 : Addr) (c6 : Addr) (c7 : Addr) (c8 : Addr) (c9 : Addr) (c10 : Addr) (c11 : Addr) (h0 : Heap) (n0 : Nat) (O0 : Old Z n0 h0) (S_c0 : Sta Z Z.heap "com/example/latmere/latmere/spatial/GeometryType" "POINT" "Lcom/example/latmere/latmere/spatial/GeometryType;" (.ref c0)) (S_c1 : Sta Z Z.heap "com/example/latmere/latmere/spatial/GeometryType" "LINESTRING" "Lcom/example/latmere/latmere/spatial/GeometryType;" (.ref c1)) (S_c2 : Sta Z Z.heap "com/example/latmere/latmere/spatial/GeometryType" "POLYGON" "Lcom/example/latmere/latmere/spatial/GeometryType;" (.ref c2)) (S_c3 : Sta Z Z.heap "com/example/latmere/latmere/spatial/GeometryType" "MULTIPOINT" "Lcom/example/latmere/latmere/spatial/GeometryType;" (.ref c3)) (S_c4 : Sta Z Z.heap "com/example/latmere/latmere/spatial/GeometryType" "MULTILINESTRING" "Lcom/example/latmere/latmere/spatial/GeometryType;" (.ref c4)) (S_c5 : Sta Z Z.heap "com/example/latmere/latmere/spatial/GeometryType" "MULTIPOLYGON" "Lcom/example/latmere/latmere/spatial/GeometryType;" (.ref c5)) (S_c6 : Sta Z Z.heap "com/example/latmere/latmere/spatial/GeometryType" "GEOMETRYCOLLECTION" "Lcom/example/latmere/latmere/spatial/GeometryType;" (.ref c6)) (S_c7 : Sta Z Z.heap "com/example/latmere/latmere/spatial/GeometryType" "CIRCULARSTRING" "Lcom/example/latmere/latmere/spatial/GeometryType;" (.ref c7)) (S_c8 : Sta Z Z.heap "com/example/latmere/latmere/spatial/GeometryType" "COMPOUNDCURVE" "Lcom/example/latmere/latmere/spatial/GeometryType;" (.ref c8)) (S_c9 : Sta Z Z.heap "com/example/latmere/latmere/spatial/GeometryType" "CURVEPOLYGON" "Lcom/example/latmere/latmere/spatial/GeometryType;" (.ref c9)) (S_c10 : Sta Z Z.heap "com/example/latmere/latmere/spatial/GeometryType" "MULTICURVE" "Lcom/example/latmere/latmere/spatial/GeometryType;" (.ref c10)) (S_c11 : Sta Z Z.heap "com/example/latmere/latmere/spatial/GeometryType" "MULTISURFACE" "Lcom/example/latmere/latmere/spatial/GeometryType;" (.ref c11)) (E_c0 : Exa Z Z.heap c0 "com/example/latmere/latmere/spatial/GeometryType") (E_c1 : Exa Z Z.heap c1 "com/example/latmere/latmere/spatial/GeometryType") (E_c2 : Exa Z Z.heap c2 "com/example/latmere/latmere/spatial/GeometryType") (E_c3 : Exa Z Z.heap c3 "com/example/latmere/latmere/spatial/GeometryType") (E_c4 : Exa Z Z.heap c4 "com/example/latmere/latmere/spatial/GeometryType") (E_c5 : Exa Z Z.heap c5 "com/example/latmere/latmere/spatial/GeometryType") (E_c6 : Exa Z Z.heap c6 "com/example/latmere/latmere/spatial/GeometryType") (E_c7 : Exa Z Z.heap c7 "com/example/latmere/latmere/spatial/GeometryType") (E_c8 : Exa Z Z.heap c8 "com/example/latmere/latmere/spatial/GeometryType") (E_c9 : Exa Z Z.heap c9 "com/example/latmere/latmere/spatial/GeometryType") (E_c10 : Exa Z Z.heap c10 "com/example/latmere/latmere/spatial/GeometryType") (E_c11 : Exa Z Z.heap c11 "com/example/latmere/latmere/spatial/GeometryType") (F_c0 : Fld Z Z.heap c0 "java/lang/Enum" "ordinal" "I" (.int (0 : Int32))) (F_c1 : Fld Z Z.heap c1 "java/lang/Enum" "ordinal" "I" (.int (1 : Int32))) (F_c2 : Fld Z Z.heap c2 "java/lang/Enum" "ordinal" "I" (.int (2 : Int32))) (F_c3 : Fld Z Z.heap c3 "java/lang/Enum" "ordinal" "I" (.int (3 : Int32))) (F_c4 : Fld Z Z.heap c4 "java/lang/Enum" "ordinal" "I" (.int (4 : Int32))) (F_c5 : Fld Z Z.heap c5 "java/lang/Enum" "ordinal" "I" (.int (5 : Int32))) (F_c6 : Fld Z Z.heap c6 "java/lang/Enum" "ordinal" "I" (.int (6 : Int32))) (F_c7 : Fld Z Z.heap c7 "java/lang/Enum" "ordinal" "I" (.int (7 : Int32))) (F_c8 : Fld Z Z.heap c8 "java/lang/Enum" "ordinal" "I" (.int (8 : Int32))) (F_c9 : Fld Z Z.heap c9 "java/lang/Enum" "ordinal" "I" (.int (9 : Int32))) (F_c10 : Fld Z Z.heap c10 "java/lang/Enum" "ordinal" "I" (.int (10 : Int32))) (F_c11 : Fld Z Z.heap c11 "java/lang/Enum" "ordinal" "I" (.int (11 : Int32))) :
    MetFree l x (head1 (Jvm.Cond.code x code maxLocals ret :: ws) room_1) (fun aq_ U => aq_ = #[(.int z1)] ∧ Z.Warmed39 U.vm ∧ U.heap = h0) (fun _ _ _ _ _ => True) (fun _ U o U' => ∃ v L, o = .returned v ∧ Q_rm0 Z z1 c0 c1 c2 c3 c4 c5 c6 c7 c8 c9 c10 c11 h0 n0 v U'.heap L ∧ FrameEnd U o U' L 16 128) := by
  refine MetFree.of_bodySF (plainFor_of_name pn_0) hisR ?_
  intro p e s m args below meth c s₁ Bd hml0 hP hK
  obtain ⟨rfl, hZ, hh⟩ := hP
  have hx := Bd.exec
  have hby := Bd.bytes
  have hml : c.maxLocals = 4 := hml0
  have hown : s.vm.findClass "com/example/latmere/latmere/spatial/GeometryTypeIsCurvePinLaw" = some m.cls := findClass_of_methodNamed Bd.named
  have hnm := (name_of_methodNamed Bd.named Bd.method).1
  have X0 : Stand p l e room_1 s m #[(.int z1)] below meth c s₁ [] 0 0 := Stand.of_body Bd
  have e0 : s₁.heap = h0 := by rw [← hh, Bd.state]; rfl
  have N0 := Fr.nil n0
  show own_Ends p.tables e below (own_P s (Q_rm0 Z z1 c0 c1 c2 c3 c4 c5 c6 c7 c8 c9 c10 c11 h0 n0) 16 128) _
  refine own_cast (ef_rm0 m z1) ?_
  show own_Ends _ _ _ _ (s₁.setTop (mkF m 0 #[.val (.int z1), .unset, .unset, .unset] []))
  refine own_to (fun _ kont => XS.iloadN X0.here hx rfl (hb hby at_0) rfl kont) ?_
  show own_Ends _ _ _ _ (s₁.setTop (mkF m 1 #[.val (.int z1), .unset, .unset, .unset] [(.int z1)]))
  refine own_to (X0.ldcInt hx hown (mvT hZ (ow0 hw)) (g := (mkF m 1 #[.val (.int z1), .unset, .unset, .unset] [(.int z1)])) rfl (hb hby at_1)) ?_
  show own_Ends _ _ _ _ (s₁.setTop (mkF m 3 #[.val (.int z1), .unset, .unset, .unset] [(.int 2147483647), (.int z1)]))
  refine own_to (fun _ kont => XS.iand X0.here hx rfl (hb hby at_3) rfl kont) ?_
  show own_Ends _ _ _ _ (s₁.setTop (mkF m 4 #[.val (.int z1), .unset, .unset, .unset] [(.int (z1 &&& 2147483647))]))
  refine own_to (fun _ kont => XS.bipush X0.here hx rfl (hb hby at_4) kont) ?_
  show own_Ends _ _ _ _ (s₁.setTop (mkF m 6 #[.val (.int z1), .unset, .unset, .unset] [(.int 12), (.int (z1 &&& 2147483647))]))
  refine own_to (fun _ kont => iremM X0 hx rfl (hb hby at_6) rfl (by decide) kont) ?_
  show own_Ends _ _ _ _ (s₁.setTop (mkF m 7 #[.val (.int z1), .unset, .unset, .unset] [(.int ((z1 &&& 2147483647) % 12))]))
  refine own_to (fun _ kont => XS.istoreN X0.here hx rfl (hb hby at_7) rfl (l' := #[.val (.int z1), .val (.int ((z1 &&& (2147483647 : Int32)) % (12 : Int32))), .unset, .unset]) rfl kont) ?_
  show own_Ends _ _ _ _ (s₁.setTop (mkF m 8 #[.val (.int z1), .val (.int ((z1 &&& 2147483647) % 12)), .unset, .unset] []))
  refine own_to (fun _ kont => XS.bipush X0.here hx rfl (hb hby at_8) kont) ?_
  show own_Ends _ _ _ _ (s₁.setTop (mkF m 10 #[.val (.int z1), .val (.int ((z1 &&& 2147483647) % 12)), .unset, .unset] [(.int 12)]))
  obtain ⟨T1, h1, k1, X1, e1, E1, A1, V1, st1⟩ := newR X0 hx hZ hown (ow1 hw) (ow2 hw) e0 (g := (mkF m 10 #[.val (.int z1), .val (.int ((z1 &&& (2147483647 : Int32)) % (12 : Int32))), .unset, .unset] [(.int (12 : Int32))])) rfl (hb hby at_10) rfl (by decide) (cap := 12) (by decide) (by decide) (by decide) (by decide)
  obtain ⟨b1, g1⟩ : ∃ z, z = h0.size := ⟨_, rfl⟩
  rw [← g1] at A1 st1
  have g_b1 : n0 ≤ b1 := Nat.le_trans (own_old_le O0) (Nat.le_of_eq g1.symm)
  refine own_to st1 ?_
  have O1 := O0.ext E1
  have Vn1 : Arv Z h1 b1 k1 (.object "com/example/latmere/latmere/spatial/GeometryType") (12 : Int32) [.null, .null, .null, .null, .null, .null, .null, .null, .null, .null, .null, .null] .null := (Arv.new A1 (by decide)).pad (pad_rep [] .null 12)
  show own_Ends _ _ _ _ (T1.setTop (mkF m 13 #[.val (.int z1), .val (.int ((z1 &&& 2147483647) % 12)), .unset, .unset] [(.ref b1)]))
  refine own_to (fun _ kont => XS.dup X1.here hx rfl (hb hby at_13) rfl rfl kont) ?_
  show own_Ends _ _ _ _ (T1.setTop (mkF m 14 #[.val (.int z1), .val (.int ((z1 &&& 2147483647) % 12)), .unset, .unset] [(.ref b1), (.ref b1)]))
  refine own_to (fun _ kont => XS.iconst X1.here hx rfl (hb hby at_14) kont) ?_
  show own_Ends _ _ _ _ (T1.setTop (mkF m 15 #[.val (.int z1), .val (.int ((z1 &&& 2147483647) % 12)), .unset, .unset] [(.int 0), (.ref b1), (.ref b1)]))
  obtain ⟨T2, X2, e2, st2⟩ := getS2 X1 hx hZ hown (host := "") (Or.inl (ow3 hw)) Via.refl e1 (S_c0.ext O1.2) (g := (mkF m 15 #[.val (.int z1), .val (.int ((z1 &&& (2147483647 : Int32)) % (12 : Int32))), .unset, .unset] [(.int (0 : Int32)), (.ref b1), (.ref b1)])) rfl (hb hby at_15)
  refine own_to st2 ?_
  show own_Ends _ _ _ _ (T2.setTop (mkF m 18 #[.val (.int z1), .val (.int ((z1 &&& 2147483647) % 12)), .unset, .unset] [(.ref c0), (.int 0), (.ref b1), (.ref b1)]))
  obtain ⟨cl3, Ar3, q3, S3, M3, H3, G3⟩ := id Vn1
  have hin3 : ¬ ((0 : Int32) < 0 ∨ cl3.slots.size ≤ ((0 : Int32)).toNatClampNeg) := inb_of S3 ⟨by decide, by decide⟩
  obtain ⟨T3, h3, X3, e3, W3, st3⟩ := stR X2 hx hZ e2 Ar3 (j := (0 : Int32)) hin3 rfl (Sto.ofV Ar3 q3 V1 (Ins.self (E_c0.ext O1.2))) (g := (mkF m 18 #[.val (.int z1), .val (.int ((z1 &&& (2147483647 : Int32)) % (12 : Int32))), .unset, .unset] [(.ref c0), (.int (0 : Int32)), (.ref b1), (.ref b1)])) rfl rfl (hb hby at_18)
  have Vs3 : Arv Z h3 b1 k1 (.object "com/example/latmere/latmere/spatial/GeometryType") (12 : Int32) [(.ref c0), .null, .null, .null, .null, .null, .null, .null, .null, .null, .null, .null] .null := Arv.set Ar3 q3 S3 M3 H3 G3 rfl W3 0 rfl (own_lt rfl)
  refine own_to st3 ?_
  have O3 := O1.wr W3 g_b1
  have N3 := Fr.snoc X3 N0 g_b1
  show own_Ends _ _ _ _ (T3.setTop (mkF m 19 #[.val (.int z1), .val (.int ((z1 &&& 2147483647) % 12)), .unset, .unset] [(.ref b1)]))
  refine own_to (fun _ kont => XS.dup X3.here hx rfl (hb hby at_19) rfl rfl kont) ?_
  show own_Ends _ _ _ _ (T3.setTop (mkF m 20 #[.val (.int z1), .val (.int ((z1 &&& 2147483647) % 12)), .unset, .unset] [(.ref b1), (.ref b1)]))
  refine own_to (fun _ kont => XS.iconst X3.here hx rfl (hb hby at_20) kont) ?_
  show own_Ends _ _ _ _ (T3.setTop (mkF m 21 #[.val (.int z1), .val (.int ((z1 &&& 2147483647) % 12)), .unset, .unset] [(.int 1), (.ref b1), (.ref b1)]))
  obtain ⟨T4, X4, e4, st4⟩ := getS2 X3 hx hZ hown (host := "") (Or.inl (ow7 hw)) Via.refl e3 (S_c1.ext O3.2) (g := (mkF m 21 #[.val (.int z1), .val (.int ((z1 &&& (2147483647 : Int32)) % (12 : Int32))), .unset, .unset] [(.int (1 : Int32)), (.ref b1), (.ref b1)])) rfl (hb hby at_21)
  refine own_to st4 ?_
  show own_Ends _ _ _ _ (T4.setTop (mkF m 24 #[.val (.int z1), .val (.int ((z1 &&& 2147483647) % 12)), .unset, .unset] [(.ref c1), (.int 1), (.ref b1), (.ref b1)]))
  obtain ⟨cl5, Ar5, q5, S5, M5, H5, G5⟩ := id Vs3
  have hin5 : ¬ ((1 : Int32) < 0 ∨ cl5.slots.size ≤ ((1 : Int32)).toNatClampNeg) := inb_of S5 ⟨by decide, by decide⟩
  obtain ⟨T5, h5, X5, e5, W5, st5⟩ := stR X4 hx hZ e4 Ar5 (j := (1 : Int32)) hin5 rfl (Sto.ofV Ar5 q5 V1 (Ins.self (E_c1.ext O3.2))) (g := (mkF m 24 #[.val (.int z1), .val (.int ((z1 &&& (2147483647 : Int32)) % (12 : Int32))), .unset, .unset] [(.ref c1), (.int (1 : Int32)), (.ref b1), (.ref b1)])) rfl rfl (hb hby at_24)
  have Vs5 : Arv Z h5 b1 k1 (.object "com/example/latmere/latmere/spatial/GeometryType") (12 : Int32) [(.ref c0), (.ref c1), .null, .null, .null, .null, .null, .null, .null, .null, .null, .null] .null := Arv.set Ar5 q5 S5 M5 H5 G5 rfl W5 1 rfl (own_lt rfl)
  refine own_to st5 ?_
  have O5 := O3.wr W5 g_b1
  have N5 := Fr.snoc X5 N3 g_b1
  show own_Ends _ _ _ _ (T5.setTop (mkF m 25 #[.val (.int z1), .val (.int ((z1 &&& 2147483647) % 12)), .unset, .unset] [(.ref b1)]))
  refine own_to (fun _ kont => XS.dup X5.here hx rfl (hb hby at_25) rfl rfl kont) ?_
  show own_Ends _ _ _ _ (T5.setTop (mkF m 26 #[.val (.int z1), .val (.int ((z1 &&& 2147483647) % 12)), .unset, .unset] [(.ref b1), (.ref b1)]))
  refine own_to (fun _ kont => XS.iconst X5.here hx rfl (hb hby at_26) kont) ?_
  show own_Ends _ _ _ _ (T5.setTop (mkF m 27 #[.val (.int z1), .val (.int ((z1 &&& 2147483647) % 12)), .unset, .unset] [(.int 2), (.ref b1), (.ref b1)]))
  obtain ⟨T6, X6, e6, st6⟩ := getS2 X5 hx hZ hown (host := "") (Or.inl (ow9 hw)) Via.refl e5 (S_c2.ext O5.2) (g := (mkF m 27 #[.val (.int z1), .val (.int ((z1 &&& (2147483647 : Int32)) % (12 : Int32))), .unset, .unset] [(.int (2 : Int32)), (.ref b1), (.ref b1)])) rfl (hb hby at_27)
  refine own_to st6 ?_
  show own_Ends _ _ _ _ (T6.setTop (mkF m 30 #[.val (.int z1), .val (.int ((z1 &&& 2147483647) % 12)), .unset, .unset] [(.ref c2), (.int 2), (.ref b1), (.ref b1)]))
  obtain ⟨cl7, Ar7, q7, S7, M7, H7, G7⟩ := id Vs5
  have hin7 : ¬ ((2 : Int32) < 0 ∨ cl7.slots.size ≤ ((2 : Int32)).toNatClampNeg) := inb_of S7 ⟨by decide, by decide⟩
  obtain ⟨T7, h7, X7, e7, W7, st7⟩ := stR X6 hx hZ e6 Ar7 (j := (2 : Int32)) hin7 rfl (Sto.ofV Ar7 q7 V1 (Ins.self (E_c2.ext O5.2))) (g := (mkF m 30 #[.val (.int z1), .val (.int ((z1 &&& (2147483647 : Int32)) % (12 : Int32))), .unset, .unset] [(.ref c2), (.int (2 : Int32)), (.ref b1), (.ref b1)])) rfl rfl (hb hby at_30)
  have Vs7 : Arv Z h7 b1 k1 (.object "com/example/latmere/latmere/spatial/GeometryType") (12 : Int32) [(.ref c0), (.ref c1), (.ref c2), .null, .null, .null, .null, .null, .null, .null, .null, .null] .null := Arv.set Ar7 q7 S7 M7 H7 G7 rfl W7 2 rfl (own_lt rfl)
  refine own_to st7 ?_
  have O7 := O5.wr W7 g_b1
  have N7 := Fr.snoc X7 N5 g_b1
  show own_Ends _ _ _ _ (T7.setTop (mkF m 31 #[.val (.int z1), .val (.int ((z1 &&& 2147483647) % 12)), .unset, .unset] [(.ref b1)]))
  refine own_to (fun _ kont => XS.dup X7.here hx rfl (hb hby at_31) rfl rfl kont) ?_
  show own_Ends _ _ _ _ (T7.setTop (mkF m 32 #[.val (.int z1), .val (.int ((z1 &&& 2147483647) % 12)), .unset, .unset] [(.ref b1), (.ref b1)]))
  refine own_to (fun _ kont => XS.iconst X7.here hx rfl (hb hby at_32) kont) ?_
  show own_Ends _ _ _ _ (T7.setTop (mkF m 33 #[.val (.int z1), .val (.int ((z1 &&& 2147483647) % 12)), .unset, .unset] [(.int 3), (.ref b1), (.ref b1)]))
  obtain ⟨T8, X8, e8, st8⟩ := getS2 X7 hx hZ hown (host := "") (Or.inl (ow11 hw)) Via.refl e7 (S_c3.ext O7.2) (g := (mkF m 33 #[.val (.int z1), .val (.int ((z1 &&& (2147483647 : Int32)) % (12 : Int32))), .unset, .unset] [(.int (3 : Int32)), (.ref b1), (.ref b1)])) rfl (hb hby at_33)
  refine own_to st8 ?_
  show own_Ends _ _ _ _ (T8.setTop (mkF m 36 #[.val (.int z1), .val (.int ((z1 &&& 2147483647) % 12)), .unset, .unset] [(.ref c3), (.int 3), (.ref b1), (.ref b1)]))
  obtain ⟨cl9, Ar9, q9, S9, M9, H9, G9⟩ := id Vs7
  have hin9 : ¬ ((3 : Int32) < 0 ∨ cl9.slots.size ≤ ((3 : Int32)).toNatClampNeg) := inb_of S9 ⟨by decide, by decide⟩
  obtain ⟨T9, h9, X9, e9, W9, st9⟩ := stR X8 hx hZ e8 Ar9 (j := (3 : Int32)) hin9 rfl (Sto.ofV Ar9 q9 V1 (Ins.self (E_c3.ext O7.2))) (g := (mkF m 36 #[.val (.int z1), .val (.int ((z1 &&& (2147483647 : Int32)) % (12 : Int32))), .unset, .unset] [(.ref c3), (.int (3 : Int32)), (.ref b1), (.ref b1)])) rfl rfl (hb hby at_36)
  have Vs9 : Arv Z h9 b1 k1 (.object "com/example/latmere/latmere/spatial/GeometryType") (12 : Int32) [(.ref c0), (.ref c1), (.ref c2), (.ref c3), .null, .null, .null, .null, .null, .null, .null, .null] .null := Arv.set Ar9 q9 S9 M9 H9 G9 rfl W9 3 rfl (own_lt rfl)
  refine own_to st9 ?_
  have O9 := O7.wr W9 g_b1
  have N9 := Fr.snoc X9 N7 g_b1
  show own_Ends _ _ _ _ (T9.setTop (mkF m 37 #[.val (.int z1), .val (.int ((z1 &&& 2147483647) % 12)), .unset, .unset] [(.ref b1)]))
  refine own_to (fun _ kont => XS.dup X9.here hx rfl (hb hby at_37) rfl rfl kont) ?_
  show own_Ends _ _ _ _ (T9.setTop (mkF m 38 #[.val (.int z1), .val (.int ((z1 &&& 2147483647) % 12)), .unset, .unset] [(.ref b1), (.ref b1)]))
  refine own_to (fun _ kont => XS.iconst X9.here hx rfl (hb hby at_38) kont) ?_
  show own_Ends _ _ _ _ (T9.setTop (mkF m 39 #[.val (.int z1), .val (.int ((z1 &&& 2147483647) % 12)), .unset, .unset] [(.int 4), (.ref b1), (.ref b1)]))
  obtain ⟨T10, X10, e10, st10⟩ := getS2 X9 hx hZ hown (host := "") (Or.inl (ow13 hw)) Via.refl e9 (S_c4.ext O9.2) (g := (mkF m 39 #[.val (.int z1), .val (.int ((z1 &&& (2147483647 : Int32)) % (12 : Int32))), .unset, .unset] [(.int (4 : Int32)), (.ref b1), (.ref b1)])) rfl (hb hby at_39)
  refine own_to st10 ?_
  show own_Ends _ _ _ _ (T10.setTop (mkF m 42 #[.val (.int z1), .val (.int ((z1 &&& 2147483647) % 12)), .unset, .unset] [(.ref c4), (.int 4), (.ref b1), (.ref b1)]))
  obtain ⟨cl11, Ar11, q11, S11, M11, H11, G11⟩ := id Vs9
  have hin11 : ¬ ((4 : Int32) < 0 ∨ cl11.slots.size ≤ ((4 : Int32)).toNatClampNeg) := inb_of S11 ⟨by decide, by decide⟩
  obtain ⟨T11, h11, X11, e11, W11, st11⟩ := stR X10 hx hZ e10 Ar11 (j := (4 : Int32)) hin11 rfl (Sto.ofV Ar11 q11 V1 (Ins.self (E_c4.ext O9.2))) (g := (mkF m 42 #[.val (.int z1), .val (.int ((z1 &&& (2147483647 : Int32)) % (12 : Int32))), .unset, .unset] [(.ref c4), (.int (4 : Int32)), (.ref b1), (.ref b1)])) rfl rfl (hb hby at_42)
  have Vs11 : Arv Z h11 b1 k1 (.object "com/example/latmere/latmere/spatial/GeometryType") (12 : Int32) [(.ref c0), (.ref c1), (.ref c2), (.ref c3), (.ref c4), .null, .null, .null, .null, .null, .null, .null] .null := Arv.set Ar11 q11 S11 M11 H11 G11 rfl W11 4 rfl (own_lt rfl)
  refine own_to st11 ?_
  have O11 := O9.wr W11 g_b1
  have N11 := Fr.snoc X11 N9 g_b1
  show own_Ends _ _ _ _ (T11.setTop (mkF m 43 #[.val (.int z1), .val (.int ((z1 &&& 2147483647) % 12)), .unset, .unset] [(.ref b1)]))
  refine own_to (fun _ kont => XS.dup X11.here hx rfl (hb hby at_43) rfl rfl kont) ?_
  show own_Ends _ _ _ _ (T11.setTop (mkF m 44 #[.val (.int z1), .val (.int ((z1 &&& 2147483647) % 12)), .unset, .unset] [(.ref b1), (.ref b1)]))
  refine own_to (fun _ kont => XS.iconst X11.here hx rfl (hb hby at_44) kont) ?_
  show own_Ends _ _ _ _ (T11.setTop (mkF m 45 #[.val (.int z1), .val (.int ((z1 &&& 2147483647) % 12)), .unset, .unset] [(.int 5), (.ref b1), (.ref b1)]))
  obtain ⟨T12, X12, e12, st12⟩ := getS2 X11 hx hZ hown (host := "") (Or.inl (ow15 hw)) Via.refl e11 (S_c5.ext O11.2) (g := (mkF m 45 #[.val (.int z1), .val (.int ((z1 &&& (2147483647 : Int32)) % (12 : Int32))), .unset, .unset] [(.int (5 : Int32)), (.ref b1), (.ref b1)])) rfl (hb hby at_45)
  refine own_to st12 ?_
  show own_Ends _ _ _ _ (T12.setTop (mkF m 48 #[.val (.int z1), .val (.int ((z1 &&& 2147483647) % 12)), .unset, .unset] [(.ref c5), (.int 5), (.ref b1), (.ref b1)]))
  obtain ⟨cl13, Ar13, q13, S13, M13, H13, G13⟩ := id Vs11
  have hin13 : ¬ ((5 : Int32) < 0 ∨ cl13.slots.size ≤ ((5 : Int32)).toNatClampNeg) := inb_of S13 ⟨by decide, by decide⟩
  obtain ⟨T13, h13, X13, e13, W13, st13⟩ := stR X12 hx hZ e12 Ar13 (j := (5 : Int32)) hin13 rfl (Sto.ofV Ar13 q13 V1 (Ins.self (E_c5.ext O11.2))) (g := (mkF m 48 #[.val (.int z1), .val (.int ((z1 &&& (2147483647 : Int32)) % (12 : Int32))), .unset, .unset] [(.ref c5), (.int (5 : Int32)), (.ref b1), (.ref b1)])) rfl rfl (hb hby at_48)
  have Vs13 : Arv Z h13 b1 k1 (.object "com/example/latmere/latmere/spatial/GeometryType") (12 : Int32) [(.ref c0), (.ref c1), (.ref c2), (.ref c3), (.ref c4), (.ref c5), .null, .null, .null, .null, .null, .null] .null := Arv.set Ar13 q13 S13 M13 H13 G13 rfl W13 5 rfl (own_lt rfl)
  refine own_to st13 ?_
  have O13 := O11.wr W13 g_b1
  have N13 := Fr.snoc X13 N11 g_b1
  show own_Ends _ _ _ _ (T13.setTop (mkF m 49 #[.val (.int z1), .val (.int ((z1 &&& 2147483647) % 12)), .unset, .unset] [(.ref b1)]))
  refine own_to (fun _ kont => XS.dup X13.here hx rfl (hb hby at_49) rfl rfl kont) ?_
  show own_Ends _ _ _ _ (T13.setTop (mkF m 50 #[.val (.int z1), .val (.int ((z1 &&& 2147483647) % 12)), .unset, .unset] [(.ref b1), (.ref b1)]))
  refine own_to (fun _ kont => XS.bipush X13.here hx rfl (hb hby at_50) kont) ?_
  show own_Ends _ _ _ _ (T13.setTop (mkF m 52 #[.val (.int z1), .val (.int ((z1 &&& 2147483647) % 12)), .unset, .unset] [(.int 6), (.ref b1), (.ref b1)]))
  obtain ⟨T14, X14, e14, st14⟩ := getS2 X13 hx hZ hown (host := "") (Or.inl (ow17 hw)) Via.refl e13 (S_c6.ext O13.2) (g := (mkF m 52 #[.val (.int z1), .val (.int ((z1 &&& (2147483647 : Int32)) % (12 : Int32))), .unset, .unset] [(.int (6 : Int32)), (.ref b1), (.ref b1)])) rfl (hb hby at_52)
  refine own_to st14 ?_
  show own_Ends _ _ _ _ (T14.setTop (mkF m 55 #[.val (.int z1), .val (.int ((z1 &&& 2147483647) % 12)), .unset, .unset] [(.ref c6), (.int 6), (.ref b1), (.ref b1)]))
  obtain ⟨cl15, Ar15, q15, S15, M15, H15, G15⟩ := id Vs13
  have hin15 : ¬ ((6 : Int32) < 0 ∨ cl15.slots.size ≤ ((6 : Int32)).toNatClampNeg) := inb_of S15 ⟨by decide, by decide⟩
  obtain ⟨T15, h15, X15, e15, W15, st15⟩ := stR X14 hx hZ e14 Ar15 (j := (6 : Int32)) hin15 rfl (Sto.ofV Ar15 q15 V1 (Ins.self (E_c6.ext O13.2))) (g := (mkF m 55 #[.val (.int z1), .val (.int ((z1 &&& (2147483647 : Int32)) % (12 : Int32))), .unset, .unset] [(.ref c6), (.int (6 : Int32)), (.ref b1), (.ref b1)])) rfl rfl (hb hby at_55)
  have Vs15 : Arv Z h15 b1 k1 (.object "com/example/latmere/latmere/spatial/GeometryType") (12 : Int32) [(.ref c0), (.ref c1), (.ref c2), (.ref c3), (.ref c4), (.ref c5), (.ref c6), .null, .null, .null, .null, .null] .null := Arv.set Ar15 q15 S15 M15 H15 G15 rfl W15 6 rfl (own_lt rfl)
  refine own_to st15 ?_
  have O15 := O13.wr W15 g_b1
  have N15 := Fr.snoc X15 N13 g_b1
  show own_Ends _ _ _ _ (T15.setTop (mkF m 56 #[.val (.int z1), .val (.int ((z1 &&& 2147483647) % 12)), .unset, .unset] [(.ref b1)]))
  refine own_to (fun _ kont => XS.dup X15.here hx rfl (hb hby at_56) rfl rfl kont) ?_
  show own_Ends _ _ _ _ (T15.setTop (mkF m 57 #[.val (.int z1), .val (.int ((z1 &&& 2147483647) % 12)), .unset, .unset] [(.ref b1), (.ref b1)]))
  refine own_to (fun _ kont => XS.bipush X15.here hx rfl (hb hby at_57) kont) ?_
  show own_Ends _ _ _ _ (T15.setTop (mkF m 59 #[.val (.int z1), .val (.int ((z1 &&& 2147483647) % 12)), .unset, .unset] [(.int 7), (.ref b1), (.ref b1)]))
  obtain ⟨T16, X16, e16, st16⟩ := getS2 X15 hx hZ hown (host := "") (Or.inl (ow19 hw)) Via.refl e15 (S_c7.ext O15.2) (g := (mkF m 59 #[.val (.int z1), .val (.int ((z1 &&& (2147483647 : Int32)) % (12 : Int32))), .unset, .unset] [(.int (7 : Int32)), (.ref b1), (.ref b1)])) rfl (hb hby at_59)
  refine own_to st16 ?_
  show own_Ends _ _ _ _ (T16.setTop (mkF m 62 #[.val (.int z1), .val (.int ((z1 &&& 2147483647) % 12)), .unset, .unset] [(.ref c7), (.int 7), (.ref b1), (.ref b1)]))
  obtain ⟨cl17, Ar17, q17, S17, M17, H17, G17⟩ := id Vs15
  have hin17 : ¬ ((7 : Int32) < 0 ∨ cl17.slots.size ≤ ((7 : Int32)).toNatClampNeg) := inb_of S17 ⟨by decide, by decide⟩
  obtain ⟨T17, h17, X17, e17, W17, st17⟩ := stR X16 hx hZ e16 Ar17 (j := (7 : Int32)) hin17 rfl (Sto.ofV Ar17 q17 V1 (Ins.self (E_c7.ext O15.2))) (g := (mkF m 62 #[.val (.int z1), .val (.int ((z1 &&& (2147483647 : Int32)) % (12 : Int32))), .unset, .unset] [(.ref c7), (.int (7 : Int32)), (.ref b1), (.ref b1)])) rfl rfl (hb hby at_62)
  have Vs17 : Arv Z h17 b1 k1 (.object "com/example/latmere/latmere/spatial/GeometryType") (12 : Int32) [(.ref c0), (.ref c1), (.ref c2), (.ref c3), (.ref c4), (.ref c5), (.ref c6), (.ref c7), .null, .null, .null, .null] .null := Arv.set Ar17 q17 S17 M17 H17 G17 rfl W17 7 rfl (own_lt rfl)
  refine own_to st17 ?_
  have O17 := O15.wr W17 g_b1
  have N17 := Fr.snoc X17 N15 g_b1
  show own_Ends _ _ _ _ (T17.setTop (mkF m 63 #[.val (.int z1), .val (.int ((z1 &&& 2147483647) % 12)), .unset, .unset] [(.ref b1)]))
  refine own_to (fun _ kont => XS.dup X17.here hx rfl (hb hby at_63) rfl rfl kont) ?_
  show own_Ends _ _ _ _ (T17.setTop (mkF m 64 #[.val (.int z1), .val (.int ((z1 &&& 2147483647) % 12)), .unset, .unset] [(.ref b1), (.ref b1)]))
  refine own_to (fun _ kont => XS.bipush X17.here hx rfl (hb hby at_64) kont) ?_
  show own_Ends _ _ _ _ (T17.setTop (mkF m 66 #[.val (.int z1), .val (.int ((z1 &&& 2147483647) % 12)), .unset, .unset] [(.int 8), (.ref b1), (.ref b1)]))
  obtain ⟨T18, X18, e18, st18⟩ := getS2 X17 hx hZ hown (host := "") (Or.inl (ow21 hw)) Via.refl e17 (S_c8.ext O17.2) (g := (mkF m 66 #[.val (.int z1), .val (.int ((z1 &&& (2147483647 : Int32)) % (12 : Int32))), .unset, .unset] [(.int (8 : Int32)), (.ref b1), (.ref b1)])) rfl (hb hby at_66)
  refine own_to st18 ?_
  show own_Ends _ _ _ _ (T18.setTop (mkF m 69 #[.val (.int z1), .val (.int ((z1 &&& 2147483647) % 12)), .unset, .unset] [(.ref c8), (.int 8), (.ref b1), (.ref b1)]))
  obtain ⟨cl19, Ar19, q19, S19, M19, H19, G19⟩ := id Vs17
  have hin19 : ¬ ((8 : Int32) < 0 ∨ cl19.slots.size ≤ ((8 : Int32)).toNatClampNeg) := inb_of S19 ⟨by decide, by decide⟩
  obtain ⟨T19, h19, X19, e19, W19, st19⟩ := stR X18 hx hZ e18 Ar19 (j := (8 : Int32)) hin19 rfl (Sto.ofV Ar19 q19 V1 (Ins.self (E_c8.ext O17.2))) (g := (mkF m 69 #[.val (.int z1), .val (.int ((z1 &&& (2147483647 : Int32)) % (12 : Int32))), .unset, .unset] [(.ref c8), (.int (8 : Int32)), (.ref b1), (.ref b1)])) rfl rfl (hb hby at_69)
  have Vs19 : Arv Z h19 b1 k1 (.object "com/example/latmere/latmere/spatial/GeometryType") (12 : Int32) [(.ref c0), (.ref c1), (.ref c2), (.ref c3), (.ref c4), (.ref c5), (.ref c6), (.ref c7), (.ref c8), .null, .null, .null] .null := Arv.set Ar19 q19 S19 M19 H19 G19 rfl W19 8 rfl (own_lt rfl)
  refine own_to st19 ?_
  have O19 := O17.wr W19 g_b1
  have N19 := Fr.snoc X19 N17 g_b1
  show own_Ends _ _ _ _ (T19.setTop (mkF m 70 #[.val (.int z1), .val (.int ((z1 &&& 2147483647) % 12)), .unset, .unset] [(.ref b1)]))
  refine own_to (fun _ kont => XS.dup X19.here hx rfl (hb hby at_70) rfl rfl kont) ?_
  show own_Ends _ _ _ _ (T19.setTop (mkF m 71 #[.val (.int z1), .val (.int ((z1 &&& 2147483647) % 12)), .unset, .unset] [(.ref b1), (.ref b1)]))
  refine own_to (fun _ kont => XS.bipush X19.here hx rfl (hb hby at_71) kont) ?_
  show own_Ends _ _ _ _ (T19.setTop (mkF m 73 #[.val (.int z1), .val (.int ((z1 &&& 2147483647) % 12)), .unset, .unset] [(.int 9), (.ref b1), (.ref b1)]))
  obtain ⟨T20, X20, e20, st20⟩ := getS2 X19 hx hZ hown (host := "") (Or.inl (ow23 hw)) Via.refl e19 (S_c9.ext O19.2) (g := (mkF m 73 #[.val (.int z1), .val (.int ((z1 &&& (2147483647 : Int32)) % (12 : Int32))), .unset, .unset] [(.int (9 : Int32)), (.ref b1), (.ref b1)])) rfl (hb hby at_73)
  refine own_to st20 ?_
  show own_Ends _ _ _ _ (T20.setTop (mkF m 76 #[.val (.int z1), .val (.int ((z1 &&& 2147483647) % 12)), .unset, .unset] [(.ref c9), (.int 9), (.ref b1), (.ref b1)]))
  obtain ⟨cl21, Ar21, q21, S21, M21, H21, G21⟩ := id Vs19
  have hin21 : ¬ ((9 : Int32) < 0 ∨ cl21.slots.size ≤ ((9 : Int32)).toNatClampNeg) := inb_of S21 ⟨by decide, by decide⟩
  obtain ⟨T21, h21, X21, e21, W21, st21⟩ := stR X20 hx hZ e20 Ar21 (j := (9 : Int32)) hin21 rfl (Sto.ofV Ar21 q21 V1 (Ins.self (E_c9.ext O19.2))) (g := (mkF m 76 #[.val (.int z1), .val (.int ((z1 &&& (2147483647 : Int32)) % (12 : Int32))), .unset, .unset] [(.ref c9), (.int (9 : Int32)), (.ref b1), (.ref b1)])) rfl rfl (hb hby at_76)
  have Vs21 : Arv Z h21 b1 k1 (.object "com/example/latmere/latmere/spatial/GeometryType") (12 : Int32) [(.ref c0), (.ref c1), (.ref c2), (.ref c3), (.ref c4), (.ref c5), (.ref c6), (.ref c7), (.ref c8), (.ref c9), .null, .null] .null := Arv.set Ar21 q21 S21 M21 H21 G21 rfl W21 9 rfl (own_lt rfl)
  refine own_to st21 ?_
  have O21 := O19.wr W21 g_b1
  have N21 := Fr.snoc X21 N19 g_b1
  show own_Ends _ _ _ _ (T21.setTop (mkF m 77 #[.val (.int z1), .val (.int ((z1 &&& 2147483647) % 12)), .unset, .unset] [(.ref b1)]))
  refine own_to (fun _ kont => XS.dup X21.here hx rfl (hb hby at_77) rfl rfl kont) ?_
  show own_Ends _ _ _ _ (T21.setTop (mkF m 78 #[.val (.int z1), .val (.int ((z1 &&& 2147483647) % 12)), .unset, .unset] [(.ref b1), (.ref b1)]))
  refine own_to (fun _ kont => XS.bipush X21.here hx rfl (hb hby at_78) kont) ?_
  show own_Ends _ _ _ _ (T21.setTop (mkF m 80 #[.val (.int z1), .val (.int ((z1 &&& 2147483647) % 12)), .unset, .unset] [(.int 10), (.ref b1), (.ref b1)]))
  obtain ⟨T22, X22, e22, st22⟩ := getS2 X21 hx hZ hown (host := "") (Or.inl (ow25 hw)) Via.refl e21 (S_c10.ext O21.2) (g := (mkF m 80 #[.val (.int z1), .val (.int ((z1 &&& (2147483647 : Int32)) % (12 : Int32))), .unset, .unset] [(.int (10 : Int32)), (.ref b1), (.ref b1)])) rfl (hb hby at_80)
  refine own_to st22 ?_
  show own_Ends _ _ _ _ (T22.setTop (mkF m 83 #[.val (.int z1), .val (.int ((z1 &&& 2147483647) % 12)), .unset, .unset] [(.ref c10), (.int 10), (.ref b1), (.ref b1)]))
  obtain ⟨cl23, Ar23, q23, S23, M23, H23, G23⟩ := id Vs21
  have hin23 : ¬ ((10 : Int32) < 0 ∨ cl23.slots.size ≤ ((10 : Int32)).toNatClampNeg) := inb_of S23 ⟨by decide, by decide⟩
  obtain ⟨T23, h23, X23, e23, W23, st23⟩ := stR X22 hx hZ e22 Ar23 (j := (10 : Int32)) hin23 rfl (Sto.ofV Ar23 q23 V1 (Ins.self (E_c10.ext O21.2))) (g := (mkF m 83 #[.val (.int z1), .val (.int ((z1 &&& (2147483647 : Int32)) % (12 : Int32))), .unset, .unset] [(.ref c10), (.int (10 : Int32)), (.ref b1), (.ref b1)])) rfl rfl (hb hby at_83)
  have Vs23 : Arv Z h23 b1 k1 (.object "com/example/latmere/latmere/spatial/GeometryType") (12 : Int32) [(.ref c0), (.ref c1), (.ref c2), (.ref c3), (.ref c4), (.ref c5), (.ref c6), (.ref c7), (.ref c8), (.ref c9), (.ref c10), .null] .null := Arv.set Ar23 q23 S23 M23 H23 G23 rfl W23 10 rfl (own_lt rfl)
  refine own_to st23 ?_
  have O23 := O21.wr W23 g_b1
  have N23 := Fr.snoc X23 N21 g_b1
  show own_Ends _ _ _ _ (T23.setTop (mkF m 84 #[.val (.int z1), .val (.int ((z1 &&& 2147483647) % 12)), .unset, .unset] [(.ref b1)]))
  refine own_to (fun _ kont => XS.dup X23.here hx rfl (hb hby at_84) rfl rfl kont) ?_
  show own_Ends _ _ _ _ (T23.setTop (mkF m 85 #[.val (.int z1), .val (.int ((z1 &&& 2147483647) % 12)), .unset, .unset] [(.ref b1), (.ref b1)]))
  refine own_to (fun _ kont => XS.bipush X23.here hx rfl (hb hby at_85) kont) ?_
  show own_Ends _ _ _ _ (T23.setTop (mkF m 87 #[.val (.int z1), .val (.int ((z1 &&& 2147483647) % 12)), .unset, .unset] [(.int 11), (.ref b1), (.ref b1)]))
  obtain ⟨T24, X24, e24, st24⟩ := getS2 X23 hx hZ hown (host := "") (Or.inl (ow27 hw)) Via.refl e23 (S_c11.ext O23.2) (g := (mkF m 87 #[.val (.int z1), .val (.int ((z1 &&& (2147483647 : Int32)) % (12 : Int32))), .unset, .unset] [(.int (11 : Int32)), (.ref b1), (.ref b1)])) rfl (hb hby at_87)
  refine own_to st24 ?_
  show own_Ends _ _ _ _ (T24.setTop (mkF m 90 #[.val (.int z1), .val (.int ((z1 &&& 2147483647) % 12)), .unset, .unset] [(.ref c11), (.int 11), (.ref b1), (.ref b1)]))
  obtain ⟨cl25, Ar25, q25, S25, M25, H25, G25⟩ := id Vs23
  have hin25 : ¬ ((11 : Int32) < 0 ∨ cl25.slots.size ≤ ((11 : Int32)).toNatClampNeg) := inb_of S25 ⟨by decide, by decide⟩
  obtain ⟨T25, h25, X25, e25, W25, st25⟩ := stR X24 hx hZ e24 Ar25 (j := (11 : Int32)) hin25 rfl (Sto.ofV Ar25 q25 V1 (Ins.self (E_c11.ext O23.2))) (g := (mkF m 90 #[.val (.int z1), .val (.int ((z1 &&& (2147483647 : Int32)) % (12 : Int32))), .unset, .unset] [(.ref c11), (.int (11 : Int32)), (.ref b1), (.ref b1)])) rfl rfl (hb hby at_90)
  have Vs25 : Arv Z h25 b1 k1 (.object "com/example/latmere/latmere/spatial/GeometryType") (12 : Int32) [(.ref c0), (.ref c1), (.ref c2), (.ref c3), (.ref c4), (.ref c5), (.ref c6), (.ref c7), (.ref c8), (.ref c9), (.ref c10), (.ref c11)] .null := Arv.set Ar25 q25 S25 M25 H25 G25 rfl W25 11 rfl (own_lt rfl)
  refine own_to st25 ?_
  have O25 := O23.wr W25 g_b1
  have N25 := Fr.snoc X25 N23 g_b1
  show own_Ends _ _ _ _ (T25.setTop (mkF m 91 #[.val (.int z1), .val (.int ((z1 &&& 2147483647) % 12)), .unset, .unset] [(.ref b1)]))
  refine own_to (fun _ kont => XS.astoreN X25.here hx rfl (hb hby at_91) rfl rfl (l' := #[.val (.int z1), .val (.int ((z1 &&& (2147483647 : Int32)) % (12 : Int32))), .val (.ref b1), .unset]) rfl kont) ?_
  show own_Ends _ _ _ _ (T25.setTop (mkF m 92 #[.val (.int z1), .val (.int ((z1 &&& 2147483647) % 12)), .val (.ref b1), .unset] []))
  refine own_to (fun _ kont => XS.bipush X25.here hx rfl (hb hby at_92) kont) ?_
  show own_Ends _ _ _ _ (T25.setTop (mkF m 94 #[.val (.int z1), .val (.int ((z1 &&& 2147483647) % 12)), .val (.ref b1), .unset] [(.int 12)]))
  obtain ⟨T26, h26, k26, X26, e26, E26, A26, st26⟩ := newP X25 hx hZ (aty := .boolean) (ow29 hw) e25 (g := (mkF m 94 #[.val (.int z1), .val (.int ((z1 &&& (2147483647 : Int32)) % (12 : Int32))), .val (.ref b1), .unset] [(.int (12 : Int32))])) rfl (hb hby at_94) rfl (by decide) (cap := 12) (by decide) (by decide) (by decide) (by decide)
  obtain ⟨b26, g26⟩ : ∃ z, z = h25.size := ⟨_, rfl⟩
  rw [← g26] at A26 st26
  have ne_b1_b26 : b1 ≠ b26 := Nat.ne_of_lt (Nat.lt_of_lt_of_le Vs25.lt (Nat.le_of_eq g26.symm))
  have g_b26 : n0 ≤ b26 := Nat.le_trans (own_old_le O25) (Nat.le_of_eq g26.symm)
  refine own_to st26 ?_
  have O26 := O25.ext E26
  have Vn26 : Arv Z h26 b26 k26 .boolean (12 : Int32) [(.int (0 : Int32)), (.int (0 : Int32)), (.int (0 : Int32)), (.int (0 : Int32)), (.int (0 : Int32)), (.int (0 : Int32)), (.int (0 : Int32)), (.int (0 : Int32)), (.int (0 : Int32)), (.int (0 : Int32)), (.int (0 : Int32)), (.int (0 : Int32))] (.int (0 : Int32)) := (Arv.new A26 (by decide)).pad (pad_rep [] (.int (0 : Int32)) 12)
  show own_Ends _ _ _ _ (T26.setTop (mkF m 96 #[.val (.int z1), .val (.int ((z1 &&& 2147483647) % 12)), .val (.ref b1), .unset] [(.ref b26)]))
  refine own_to (fun _ kont => XS.dup X26.here hx rfl (hb hby at_96) rfl rfl kont) ?_
  show own_Ends _ _ _ _ (T26.setTop (mkF m 97 #[.val (.int z1), .val (.int ((z1 &&& 2147483647) % 12)), .val (.ref b1), .unset] [(.ref b26), (.ref b26)]))
  refine own_to (fun _ kont => XS.iconst X26.here hx rfl (hb hby at_97) kont) ?_
  show own_Ends _ _ _ _ (T26.setTop (mkF m 98 #[.val (.int z1), .val (.int ((z1 &&& 2147483647) % 12)), .val (.ref b1), .unset] [(.int 0), (.ref b26), (.ref b26)]))
  refine own_to (fun _ kont => XS.iconst X26.here hx rfl (hb hby at_98) kont) ?_
  show own_Ends _ _ _ _ (T26.setTop (mkF m 99 #[.val (.int z1), .val (.int ((z1 &&& 2147483647) % 12)), .val (.ref b1), .unset] [(.int 0), (.int 0), (.ref b26), (.ref b26)]))
  obtain ⟨cl27, Ar27, q27, S27, M27, H27, G27⟩ := id Vn26
  have hin27 : ¬ ((0 : Int32) < 0 ∨ cl27.slots.size ≤ ((0 : Int32)).toNatClampNeg) := inb_of S27 ⟨by decide, by decide⟩
  obtain ⟨T27, h27, X27, e27, W27, st27⟩ := stZ X26 hx hZ e26 Ar27 (j := (0 : Int32)) hin27 (g := (mkF m 99 #[.val (.int z1), .val (.int ((z1 &&& (2147483647 : Int32)) % (12 : Int32))), .val (.ref b1), .unset] [(.int (0 : Int32)), (.int (0 : Int32)), (.ref b26), (.ref b26)])) rfl rfl (hb hby at_99)
  have Vs27 : Arv Z h27 b26 k26 .boolean (12 : Int32) [(.int (0 : Int32)), (.int (0 : Int32)), (.int (0 : Int32)), (.int (0 : Int32)), (.int (0 : Int32)), (.int (0 : Int32)), (.int (0 : Int32)), (.int (0 : Int32)), (.int (0 : Int32)), (.int (0 : Int32)), (.int (0 : Int32)), (.int (0 : Int32))] (.int (0 : Int32)) := Arv.set Ar27 q27 S27 M27 H27 G27 (fits_nar_bool _) W27 0 rfl (own_lt rfl)
  refine own_to st27 ?_
  have O27 := O26.wr W27 g_b26
  have N27 := Fr.snoc X27 N25 g_b26
  show own_Ends _ _ _ _ (T27.setTop (mkF m 100 #[.val (.int z1), .val (.int ((z1 &&& 2147483647) % 12)), .val (.ref b1), .unset] [(.ref b26)]))
  refine own_to (fun _ kont => XS.dup X27.here hx rfl (hb hby at_100) rfl rfl kont) ?_
  show own_Ends _ _ _ _ (T27.setTop (mkF m 101 #[.val (.int z1), .val (.int ((z1 &&& 2147483647) % 12)), .val (.ref b1), .unset] [(.ref b26), (.ref b26)]))
  refine own_to (fun _ kont => XS.iconst X27.here hx rfl (hb hby at_101) kont) ?_
  show own_Ends _ _ _ _ (T27.setTop (mkF m 102 #[.val (.int z1), .val (.int ((z1 &&& 2147483647) % 12)), .val (.ref b1), .unset] [(.int 1), (.ref b26), (.ref b26)]))
  refine own_to (fun _ kont => XS.iconst X27.here hx rfl (hb hby at_102) kont) ?_
  show own_Ends _ _ _ _ (T27.setTop (mkF m 103 #[.val (.int z1), .val (.int ((z1 &&& 2147483647) % 12)), .val (.ref b1), .unset] [(.int 1), (.int 1), (.ref b26), (.ref b26)]))
  obtain ⟨cl28, Ar28, q28, S28, M28, H28, G28⟩ := id Vs27
  have hin28 : ¬ ((1 : Int32) < 0 ∨ cl28.slots.size ≤ ((1 : Int32)).toNatClampNeg) := inb_of S28 ⟨by decide, by decide⟩
  obtain ⟨T28, h28, X28, e28, W28, st28⟩ := stZ X27 hx hZ e27 Ar28 (j := (1 : Int32)) hin28 (g := (mkF m 103 #[.val (.int z1), .val (.int ((z1 &&& (2147483647 : Int32)) % (12 : Int32))), .val (.ref b1), .unset] [(.int (1 : Int32)), (.int (1 : Int32)), (.ref b26), (.ref b26)])) rfl rfl (hb hby at_103)
  have Vs28 : Arv Z h28 b26 k26 .boolean (12 : Int32) [(.int (0 : Int32)), (.int (1 : Int32)), (.int (0 : Int32)), (.int (0 : Int32)), (.int (0 : Int32)), (.int (0 : Int32)), (.int (0 : Int32)), (.int (0 : Int32)), (.int (0 : Int32)), (.int (0 : Int32)), (.int (0 : Int32)), (.int (0 : Int32))] (.int (0 : Int32)) := Arv.set Ar28 q28 S28 M28 H28 G28 (fits_nar_bool _) W28 1 rfl (own_lt rfl)
  refine own_to st28 ?_
  have O28 := O27.wr W28 g_b26
  have N28 := Fr.snoc X28 N27 g_b26
  show own_Ends _ _ _ _ (T28.setTop (mkF m 104 #[.val (.int z1), .val (.int ((z1 &&& 2147483647) % 12)), .val (.ref b1), .unset] [(.ref b26)]))
  refine own_to (fun _ kont => XS.dup X28.here hx rfl (hb hby at_104) rfl rfl kont) ?_
  show own_Ends _ _ _ _ (T28.setTop (mkF m 105 #[.val (.int z1), .val (.int ((z1 &&& 2147483647) % 12)), .val (.ref b1), .unset] [(.ref b26), (.ref b26)]))
  refine own_to (fun _ kont => XS.iconst X28.here hx rfl (hb hby at_105) kont) ?_
  show own_Ends _ _ _ _ (T28.setTop (mkF m 106 #[.val (.int z1), .val (.int ((z1 &&& 2147483647) % 12)), .val (.ref b1), .unset] [(.int 2), (.ref b26), (.ref b26)]))
  refine own_to (fun _ kont => XS.iconst X28.here hx rfl (hb hby at_106) kont) ?_
  show own_Ends _ _ _ _ (T28.setTop (mkF m 107 #[.val (.int z1), .val (.int ((z1 &&& 2147483647) % 12)), .val (.ref b1), .unset] [(.int 0), (.int 2), (.ref b26), (.ref b26)]))
  obtain ⟨cl29, Ar29, q29, S29, M29, H29, G29⟩ := id Vs28
  have hin29 : ¬ ((2 : Int32) < 0 ∨ cl29.slots.size ≤ ((2 : Int32)).toNatClampNeg) := inb_of S29 ⟨by decide, by decide⟩
  obtain ⟨T29, h29, X29, e29, W29, st29⟩ := stZ X28 hx hZ e28 Ar29 (j := (2 : Int32)) hin29 (g := (mkF m 107 #[.val (.int z1), .val (.int ((z1 &&& (2147483647 : Int32)) % (12 : Int32))), .val (.ref b1), .unset] [(.int (0 : Int32)), (.int (2 : Int32)), (.ref b26), (.ref b26)])) rfl rfl (hb hby at_107)
  have Vs29 : Arv Z h29 b26 k26 .boolean (12 : Int32) [(.int (0 : Int32)), (.int (1 : Int32)), (.int (0 : Int32)), (.int (0 : Int32)), (.int (0 : Int32)), (.int (0 : Int32)), (.int (0 : Int32)), (.int (0 : Int32)), (.int (0 : Int32)), (.int (0 : Int32)), (.int (0 : Int32)), (.int (0 : Int32))] (.int (0 : Int32)) := Arv.set Ar29 q29 S29 M29 H29 G29 (fits_nar_bool _) W29 2 rfl (own_lt rfl)
  refine own_to st29 ?_
  have O29 := O28.wr W29 g_b26
  have N29 := Fr.snoc X29 N28 g_b26
  show own_Ends _ _ _ _ (T29.setTop (mkF m 108 #[.val (.int z1), .val (.int ((z1 &&& 2147483647) % 12)), .val (.ref b1), .unset] [(.ref b26)]))
  refine own_to (fun _ kont => XS.dup X29.here hx rfl (hb hby at_108) rfl rfl kont) ?_
  show own_Ends _ _ _ _ (T29.setTop (mkF m 109 #[.val (.int z1), .val (.int ((z1 &&& 2147483647) % 12)), .val (.ref b1), .unset] [(.ref b26), (.ref b26)]))
  refine own_to (fun _ kont => XS.iconst X29.here hx rfl (hb hby at_109) kont) ?_
  show own_Ends _ _ _ _ (T29.setTop (mkF m 110 #[.val (.int z1), .val (.int ((z1 &&& 2147483647) % 12)), .val (.ref b1), .unset] [(.int 3), (.ref b26), (.ref b26)]))
  refine own_to (fun _ kont => XS.iconst X29.here hx rfl (hb hby at_110) kont) ?_
  show own_Ends _ _ _ _ (T29.setTop (mkF m 111 #[.val (.int z1), .val (.int ((z1 &&& 2147483647) % 12)), .val (.ref b1), .unset] [(.int 0), (.int 3), (.ref b26), (.ref b26)]))
  obtain ⟨cl30, Ar30, q30, S30, M30, H30, G30⟩ := id Vs29
  have hin30 : ¬ ((3 : Int32) < 0 ∨ cl30.slots.size ≤ ((3 : Int32)).toNatClampNeg) := inb_of S30 ⟨by decide, by decide⟩
  obtain ⟨T30, h30, X30, e30, W30, st30⟩ := stZ X29 hx hZ e29 Ar30 (j := (3 : Int32)) hin30 (g := (mkF m 111 #[.val (.int z1), .val (.int ((z1 &&& (2147483647 : Int32)) % (12 : Int32))), .val (.ref b1), .unset] [(.int (0 : Int32)), (.int (3 : Int32)), (.ref b26), (.ref b26)])) rfl rfl (hb hby at_111)
  have Vs30 : Arv Z h30 b26 k26 .boolean (12 : Int32) [(.int (0 : Int32)), (.int (1 : Int32)), (.int (0 : Int32)), (.int (0 : Int32)), (.int (0 : Int32)), (.int (0 : Int32)), (.int (0 : Int32)), (.int (0 : Int32)), (.int (0 : Int32)), (.int (0 : Int32)), (.int (0 : Int32)), (.int (0 : Int32))] (.int (0 : Int32)) := Arv.set Ar30 q30 S30 M30 H30 G30 (fits_nar_bool _) W30 3 rfl (own_lt rfl)
  refine own_to st30 ?_
  have O30 := O29.wr W30 g_b26
  have N30 := Fr.snoc X30 N29 g_b26
  show own_Ends _ _ _ _ (T30.setTop (mkF m 112 #[.val (.int z1), .val (.int ((z1 &&& 2147483647) % 12)), .val (.ref b1), .unset] [(.ref b26)]))
  refine own_to (fun _ kont => XS.dup X30.here hx rfl (hb hby at_112) rfl rfl kont) ?_
  show own_Ends _ _ _ _ (T30.setTop (mkF m 113 #[.val (.int z1), .val (.int ((z1 &&& 2147483647) % 12)), .val (.ref b1), .unset] [(.ref b26), (.ref b26)]))
  refine own_to (fun _ kont => XS.iconst X30.here hx rfl (hb hby at_113) kont) ?_
  show own_Ends _ _ _ _ (T30.setTop (mkF m 114 #[.val (.int z1), .val (.int ((z1 &&& 2147483647) % 12)), .val (.ref b1), .unset] [(.int 4), (.ref b26), (.ref b26)]))
  refine own_to (fun _ kont => XS.iconst X30.here hx rfl (hb hby at_114) kont) ?_
  show own_Ends _ _ _ _ (T30.setTop (mkF m 115 #[.val (.int z1), .val (.int ((z1 &&& 2147483647) % 12)), .val (.ref b1), .unset] [(.int 0), (.int 4), (.ref b26), (.ref b26)]))
  obtain ⟨cl31, Ar31, q31, S31, M31, H31, G31⟩ := id Vs30
  have hin31 : ¬ ((4 : Int32) < 0 ∨ cl31.slots.size ≤ ((4 : Int32)).toNatClampNeg) := inb_of S31 ⟨by decide, by decide⟩
  obtain ⟨T31, h31, X31, e31, W31, st31⟩ := stZ X30 hx hZ e30 Ar31 (j := (4 : Int32)) hin31 (g := (mkF m 115 #[.val (.int z1), .val (.int ((z1 &&& (2147483647 : Int32)) % (12 : Int32))), .val (.ref b1), .unset] [(.int (0 : Int32)), (.int (4 : Int32)), (.ref b26), (.ref b26)])) rfl rfl (hb hby at_115)
  have Vs31 : Arv Z h31 b26 k26 .boolean (12 : Int32) [(.int (0 : Int32)), (.int (1 : Int32)), (.int (0 : Int32)), (.int (0 : Int32)), (.int (0 : Int32)), (.int (0 : Int32)), (.int (0 : Int32)), (.int (0 : Int32)), (.int (0 : Int32)), (.int (0 : Int32)), (.int (0 : Int32)), (.int (0 : Int32))] (.int (0 : Int32)) := Arv.set Ar31 q31 S31 M31 H31 G31 (fits_nar_bool _) W31 4 rfl (own_lt rfl)
  refine own_to st31 ?_
  have O31 := O30.wr W31 g_b26
  have N31 := Fr.snoc X31 N30 g_b26
  show own_Ends _ _ _ _ (T31.setTop (mkF m 116 #[.val (.int z1), .val (.int ((z1 &&& 2147483647) % 12)), .val (.ref b1), .unset] [(.ref b26)]))
  refine own_to (fun _ kont => XS.dup X31.here hx rfl (hb hby at_116) rfl rfl kont) ?_
  show own_Ends _ _ _ _ (T31.setTop (mkF m 117 #[.val (.int z1), .val (.int ((z1 &&& 2147483647) % 12)), .val (.ref b1), .unset] [(.ref b26), (.ref b26)]))
  refine own_to (fun _ kont => XS.iconst X31.here hx rfl (hb hby at_117) kont) ?_
  show own_Ends _ _ _ _ (T31.setTop (mkF m 118 #[.val (.int z1), .val (.int ((z1 &&& 2147483647) % 12)), .val (.ref b1), .unset] [(.int 5), (.ref b26), (.ref b26)]))
  refine own_to (fun _ kont => XS.iconst X31.here hx rfl (hb hby at_118) kont) ?_
  show own_Ends _ _ _ _ (T31.setTop (mkF m 119 #[.val (.int z1), .val (.int ((z1 &&& 2147483647) % 12)), .val (.ref b1), .unset] [(.int 0), (.int 5), (.ref b26), (.ref b26)]))
  obtain ⟨cl32, Ar32, q32, S32, M32, H32, G32⟩ := id Vs31
  have hin32 : ¬ ((5 : Int32) < 0 ∨ cl32.slots.size ≤ ((5 : Int32)).toNatClampNeg) := inb_of S32 ⟨by decide, by decide⟩
  obtain ⟨T32, h32, X32, e32, W32, st32⟩ := stZ X31 hx hZ e31 Ar32 (j := (5 : Int32)) hin32 (g := (mkF m 119 #[.val (.int z1), .val (.int ((z1 &&& (2147483647 : Int32)) % (12 : Int32))), .val (.ref b1), .unset] [(.int (0 : Int32)), (.int (5 : Int32)), (.ref b26), (.ref b26)])) rfl rfl (hb hby at_119)
  have Vs32 : Arv Z h32 b26 k26 .boolean (12 : Int32) [(.int (0 : Int32)), (.int (1 : Int32)), (.int (0 : Int32)), (.int (0 : Int32)), (.int (0 : Int32)), (.int (0 : Int32)), (.int (0 : Int32)), (.int (0 : Int32)), (.int (0 : Int32)), (.int (0 : Int32)), (.int (0 : Int32)), (.int (0 : Int32))] (.int (0 : Int32)) := Arv.set Ar32 q32 S32 M32 H32 G32 (fits_nar_bool _) W32 5 rfl (own_lt rfl)
  refine own_to st32 ?_
  have O32 := O31.wr W32 g_b26
  have N32 := Fr.snoc X32 N31 g_b26
  show own_Ends _ _ _ _ (T32.setTop (mkF m 120 #[.val (.int z1), .val (.int ((z1 &&& 2147483647) % 12)), .val (.ref b1), .unset] [(.ref b26)]))
  refine own_to (fun _ kont => XS.dup X32.here hx rfl (hb hby at_120) rfl rfl kont) ?_
  show own_Ends _ _ _ _ (T32.setTop (mkF m 121 #[.val (.int z1), .val (.int ((z1 &&& 2147483647) % 12)), .val (.ref b1), .unset] [(.ref b26), (.ref b26)]))
  refine own_to (fun _ kont => XS.bipush X32.here hx rfl (hb hby at_121) kont) ?_
  show own_Ends _ _ _ _ (T32.setTop (mkF m 123 #[.val (.int z1), .val (.int ((z1 &&& 2147483647) % 12)), .val (.ref b1), .unset] [(.int 6), (.ref b26), (.ref b26)]))
  refine own_to (fun _ kont => XS.iconst X32.here hx rfl (hb hby at_123) kont) ?_
  show own_Ends _ _ _ _ (T32.setTop (mkF m 124 #[.val (.int z1), .val (.int ((z1 &&& 2147483647) % 12)), .val (.ref b1), .unset] [(.int 0), (.int 6), (.ref b26), (.ref b26)]))
  obtain ⟨cl33, Ar33, q33, S33, M33, H33, G33⟩ := id Vs32
  have hin33 : ¬ ((6 : Int32) < 0 ∨ cl33.slots.size ≤ ((6 : Int32)).toNatClampNeg) := inb_of S33 ⟨by decide, by decide⟩
  obtain ⟨T33, h33, X33, e33, W33, st33⟩ := stZ X32 hx hZ e32 Ar33 (j := (6 : Int32)) hin33 (g := (mkF m 124 #[.val (.int z1), .val (.int ((z1 &&& (2147483647 : Int32)) % (12 : Int32))), .val (.ref b1), .unset] [(.int (0 : Int32)), (.int (6 : Int32)), (.ref b26), (.ref b26)])) rfl rfl (hb hby at_124)
  have Vs33 : Arv Z h33 b26 k26 .boolean (12 : Int32) [(.int (0 : Int32)), (.int (1 : Int32)), (.int (0 : Int32)), (.int (0 : Int32)), (.int (0 : Int32)), (.int (0 : Int32)), (.int (0 : Int32)), (.int (0 : Int32)), (.int (0 : Int32)), (.int (0 : Int32)), (.int (0 : Int32)), (.int (0 : Int32))] (.int (0 : Int32)) := Arv.set Ar33 q33 S33 M33 H33 G33 (fits_nar_bool _) W33 6 rfl (own_lt rfl)
  refine own_to st33 ?_
  have O33 := O32.wr W33 g_b26
  have N33 := Fr.snoc X33 N32 g_b26
  show own_Ends _ _ _ _ (T33.setTop (mkF m 125 #[.val (.int z1), .val (.int ((z1 &&& 2147483647) % 12)), .val (.ref b1), .unset] [(.ref b26)]))
  refine own_to (fun _ kont => XS.dup X33.here hx rfl (hb hby at_125) rfl rfl kont) ?_
  show own_Ends _ _ _ _ (T33.setTop (mkF m 126 #[.val (.int z1), .val (.int ((z1 &&& 2147483647) % 12)), .val (.ref b1), .unset] [(.ref b26), (.ref b26)]))
  refine own_to (fun _ kont => XS.bipush X33.here hx rfl (hb hby at_126) kont) ?_
  show own_Ends _ _ _ _ (T33.setTop (mkF m 128 #[.val (.int z1), .val (.int ((z1 &&& 2147483647) % 12)), .val (.ref b1), .unset] [(.int 7), (.ref b26), (.ref b26)]))
  refine own_to (fun _ kont => XS.iconst X33.here hx rfl (hb hby at_128) kont) ?_
  show own_Ends _ _ _ _ (T33.setTop (mkF m 129 #[.val (.int z1), .val (.int ((z1 &&& 2147483647) % 12)), .val (.ref b1), .unset] [(.int 1), (.int 7), (.ref b26), (.ref b26)]))
  obtain ⟨cl34, Ar34, q34, S34, M34, H34, G34⟩ := id Vs33
  have hin34 : ¬ ((7 : Int32) < 0 ∨ cl34.slots.size ≤ ((7 : Int32)).toNatClampNeg) := inb_of S34 ⟨by decide, by decide⟩
  obtain ⟨T34, h34, X34, e34, W34, st34⟩ := stZ X33 hx hZ e33 Ar34 (j := (7 : Int32)) hin34 (g := (mkF m 129 #[.val (.int z1), .val (.int ((z1 &&& (2147483647 : Int32)) % (12 : Int32))), .val (.ref b1), .unset] [(.int (1 : Int32)), (.int (7 : Int32)), (.ref b26), (.ref b26)])) rfl rfl (hb hby at_129)
  have Vs34 : Arv Z h34 b26 k26 .boolean (12 : Int32) [(.int (0 : Int32)), (.int (1 : Int32)), (.int (0 : Int32)), (.int (0 : Int32)), (.int (0 : Int32)), (.int (0 : Int32)), (.int (0 : Int32)), (.int (1 : Int32)), (.int (0 : Int32)), (.int (0 : Int32)), (.int (0 : Int32)), (.int (0 : Int32))] (.int (0 : Int32)) := Arv.set Ar34 q34 S34 M34 H34 G34 (fits_nar_bool _) W34 7 rfl (own_lt rfl)
  refine own_to st34 ?_
  have O34 := O33.wr W34 g_b26
  have N34 := Fr.snoc X34 N33 g_b26
  show own_Ends _ _ _ _ (T34.setTop (mkF m 130 #[.val (.int z1), .val (.int ((z1 &&& 2147483647) % 12)), .val (.ref b1), .unset] [(.ref b26)]))
  refine own_to (fun _ kont => XS.dup X34.here hx rfl (hb hby at_130) rfl rfl kont) ?_
  show own_Ends _ _ _ _ (T34.setTop (mkF m 131 #[.val (.int z1), .val (.int ((z1 &&& 2147483647) % 12)), .val (.ref b1), .unset] [(.ref b26), (.ref b26)]))
  refine own_to (fun _ kont => XS.bipush X34.here hx rfl (hb hby at_131) kont) ?_
  show own_Ends _ _ _ _ (T34.setTop (mkF m 133 #[.val (.int z1), .val (.int ((z1 &&& 2147483647) % 12)), .val (.ref b1), .unset] [(.int 8), (.ref b26), (.ref b26)]))
  refine own_to (fun _ kont => XS.iconst X34.here hx rfl (hb hby at_133) kont) ?_
  show own_Ends _ _ _ _ (T34.setTop (mkF m 134 #[.val (.int z1), .val (.int ((z1 &&& 2147483647) % 12)), .val (.ref b1), .unset] [(.int 1), (.int 8), (.ref b26), (.ref b26)]))
  obtain ⟨cl35, Ar35, q35, S35, M35, H35, G35⟩ := id Vs34
  have hin35 : ¬ ((8 : Int32) < 0 ∨ cl35.slots.size ≤ ((8 : Int32)).toNatClampNeg) := inb_of S35 ⟨by decide, by decide⟩
  obtain ⟨T35, h35, X35, e35, W35, st35⟩ := stZ X34 hx hZ e34 Ar35 (j := (8 : Int32)) hin35 (g := (mkF m 134 #[.val (.int z1), .val (.int ((z1 &&& (2147483647 : Int32)) % (12 : Int32))), .val (.ref b1), .unset] [(.int (1 : Int32)), (.int (8 : Int32)), (.ref b26), (.ref b26)])) rfl rfl (hb hby at_134)
  have Vs35 : Arv Z h35 b26 k26 .boolean (12 : Int32) [(.int (0 : Int32)), (.int (1 : Int32)), (.int (0 : Int32)), (.int (0 : Int32)), (.int (0 : Int32)), (.int (0 : Int32)), (.int (0 : Int32)), (.int (1 : Int32)), (.int (1 : Int32)), (.int (0 : Int32)), (.int (0 : Int32)), (.int (0 : Int32))] (.int (0 : Int32)) := Arv.set Ar35 q35 S35 M35 H35 G35 (fits_nar_bool _) W35 8 rfl (own_lt rfl)
  refine own_to st35 ?_
  have O35 := O34.wr W35 g_b26
  have N35 := Fr.snoc X35 N34 g_b26
  show own_Ends _ _ _ _ (T35.setTop (mkF m 135 #[.val (.int z1), .val (.int ((z1 &&& 2147483647) % 12)), .val (.ref b1), .unset] [(.ref b26)]))
  refine own_to (fun _ kont => XS.dup X35.here hx rfl (hb hby at_135) rfl rfl kont) ?_
  show own_Ends _ _ _ _ (T35.setTop (mkF m 136 #[.val (.int z1), .val (.int ((z1 &&& 2147483647) % 12)), .val (.ref b1), .unset] [(.ref b26), (.ref b26)]))
  refine own_to (fun _ kont => XS.bipush X35.here hx rfl (hb hby at_136) kont) ?_
  show own_Ends _ _ _ _ (T35.setTop (mkF m 138 #[.val (.int z1), .val (.int ((z1 &&& 2147483647) % 12)), .val (.ref b1), .unset] [(.int 9), (.ref b26), (.ref b26)]))
  refine own_to (fun _ kont => XS.iconst X35.here hx rfl (hb hby at_138) kont) ?_
  show own_Ends _ _ _ _ (T35.setTop (mkF m 139 #[.val (.int z1), .val (.int ((z1 &&& 2147483647) % 12)), .val (.ref b1), .unset] [(.int 0), (.int 9), (.ref b26), (.ref b26)]))
  obtain ⟨cl36, Ar36, q36, S36, M36, H36, G36⟩ := id Vs35
  have hin36 : ¬ ((9 : Int32) < 0 ∨ cl36.slots.size ≤ ((9 : Int32)).toNatClampNeg) := inb_of S36 ⟨by decide, by decide⟩
  obtain ⟨T36, h36, X36, e36, W36, st36⟩ := stZ X35 hx hZ e35 Ar36 (j := (9 : Int32)) hin36 (g := (mkF m 139 #[.val (.int z1), .val (.int ((z1 &&& (2147483647 : Int32)) % (12 : Int32))), .val (.ref b1), .unset] [(.int (0 : Int32)), (.int (9 : Int32)), (.ref b26), (.ref b26)])) rfl rfl (hb hby at_139)
  have Vs36 : Arv Z h36 b26 k26 .boolean (12 : Int32) [(.int (0 : Int32)), (.int (1 : Int32)), (.int (0 : Int32)), (.int (0 : Int32)), (.int (0 : Int32)), (.int (0 : Int32)), (.int (0 : Int32)), (.int (1 : Int32)), (.int (1 : Int32)), (.int (0 : Int32)), (.int (0 : Int32)), (.int (0 : Int32))] (.int (0 : Int32)) := Arv.set Ar36 q36 S36 M36 H36 G36 (fits_nar_bool _) W36 9 rfl (own_lt rfl)
  refine own_to st36 ?_
  have O36 := O35.wr W36 g_b26
  have N36 := Fr.snoc X36 N35 g_b26
  show own_Ends _ _ _ _ (T36.setTop (mkF m 140 #[.val (.int z1), .val (.int ((z1 &&& 2147483647) % 12)), .val (.ref b1), .unset] [(.ref b26)]))
  refine own_to (fun _ kont => XS.dup X36.here hx rfl (hb hby at_140) rfl rfl kont) ?_
  show own_Ends _ _ _ _ (T36.setTop (mkF m 141 #[.val (.int z1), .val (.int ((z1 &&& 2147483647) % 12)), .val (.ref b1), .unset] [(.ref b26), (.ref b26)]))
  refine own_to (fun _ kont => XS.bipush X36.here hx rfl (hb hby at_141) kont) ?_
  show own_Ends _ _ _ _ (T36.setTop (mkF m 143 #[.val (.int z1), .val (.int ((z1 &&& 2147483647) % 12)), .val (.ref b1), .unset] [(.int 10), (.ref b26), (.ref b26)]))
  refine own_to (fun _ kont => XS.iconst X36.here hx rfl (hb hby at_143) kont) ?_
  show own_Ends _ _ _ _ (T36.setTop (mkF m 144 #[.val (.int z1), .val (.int ((z1 &&& 2147483647) % 12)), .val (.ref b1), .unset] [(.int 0), (.int 10), (.ref b26), (.ref b26)]))
  obtain ⟨cl37, Ar37, q37, S37, M37, H37, G37⟩ := id Vs36
  have hin37 : ¬ ((10 : Int32) < 0 ∨ cl37.slots.size ≤ ((10 : Int32)).toNatClampNeg) := inb_of S37 ⟨by decide, by decide⟩
  obtain ⟨T37, h37, X37, e37, W37, st37⟩ := stZ X36 hx hZ e36 Ar37 (j := (10 : Int32)) hin37 (g := (mkF m 144 #[.val (.int z1), .val (.int ((z1 &&& (2147483647 : Int32)) % (12 : Int32))), .val (.ref b1), .unset] [(.int (0 : Int32)), (.int (10 : Int32)), (.ref b26), (.ref b26)])) rfl rfl (hb hby at_144)
  have Vs37 : Arv Z h37 b26 k26 .boolean (12 : Int32) [(.int (0 : Int32)), (.int (1 : Int32)), (.int (0 : Int32)), (.int (0 : Int32)), (.int (0 : Int32)), (.int (0 : Int32)), (.int (0 : Int32)), (.int (1 : Int32)), (.int (1 : Int32)), (.int (0 : Int32)), (.int (0 : Int32)), (.int (0 : Int32))] (.int (0 : Int32)) := Arv.set Ar37 q37 S37 M37 H37 G37 (fits_nar_bool _) W37 10 rfl (own_lt rfl)
  refine own_to st37 ?_
  have O37 := O36.wr W37 g_b26
  have N37 := Fr.snoc X37 N36 g_b26
  show own_Ends _ _ _ _ (T37.setTop (mkF m 145 #[.val (.int z1), .val (.int ((z1 &&& 2147483647) % 12)), .val (.ref b1), .unset] [(.ref b26)]))
  refine own_to (fun _ kont => XS.dup X37.here hx rfl (hb hby at_145) rfl rfl kont) ?_
  show own_Ends _ _ _ _ (T37.setTop (mkF m 146 #[.val (.int z1), .val (.int ((z1 &&& 2147483647) % 12)), .val (.ref b1), .unset] [(.ref b26), (.ref b26)]))
  refine own_to (fun _ kont => XS.bipush X37.here hx rfl (hb hby at_146) kont) ?_
  show own_Ends _ _ _ _ (T37.setTop (mkF m 148 #[.val (.int z1), .val (.int ((z1 &&& 2147483647) % 12)), .val (.ref b1), .unset] [(.int 11), (.ref b26), (.ref b26)]))
  refine own_to (fun _ kont => XS.iconst X37.here hx rfl (hb hby at_148) kont) ?_
  show own_Ends _ _ _ _ (T37.setTop (mkF m 149 #[.val (.int z1), .val (.int ((z1 &&& 2147483647) % 12)), .val (.ref b1), .unset] [(.int 0), (.int 11), (.ref b26), (.ref b26)]))
  obtain ⟨cl38, Ar38, q38, S38, M38, H38, G38⟩ := id Vs37
  have hin38 : ¬ ((11 : Int32) < 0 ∨ cl38.slots.size ≤ ((11 : Int32)).toNatClampNeg) := inb_of S38 ⟨by decide, by decide⟩
  obtain ⟨T38, h38, X38, e38, W38, st38⟩ := stZ X37 hx hZ e37 Ar38 (j := (11 : Int32)) hin38 (g := (mkF m 149 #[.val (.int z1), .val (.int ((z1 &&& (2147483647 : Int32)) % (12 : Int32))), .val (.ref b1), .unset] [(.int (0 : Int32)), (.int (11 : Int32)), (.ref b26), (.ref b26)])) rfl rfl (hb hby at_149)
  have Vs38 : Arv Z h38 b26 k26 .boolean (12 : Int32) [(.int (0 : Int32)), (.int (1 : Int32)), (.int (0 : Int32)), (.int (0 : Int32)), (.int (0 : Int32)), (.int (0 : Int32)), (.int (0 : Int32)), (.int (1 : Int32)), (.int (1 : Int32)), (.int (0 : Int32)), (.int (0 : Int32)), (.int (0 : Int32))] (.int (0 : Int32)) := Arv.set Ar38 q38 S38 M38 H38 G38 (fits_nar_bool _) W38 11 rfl (own_lt rfl)
  refine own_to st38 ?_
  have O38 := O37.wr W38 g_b26
  have N38 := Fr.snoc X38 N37 g_b26
  show own_Ends _ _ _ _ (T38.setTop (mkF m 150 #[.val (.int z1), .val (.int ((z1 &&& 2147483647) % 12)), .val (.ref b1), .unset] [(.ref b26)]))
  refine own_to (fun _ kont => XS.astoreN X38.here hx rfl (hb hby at_150) rfl rfl (l' := #[.val (.int z1), .val (.int ((z1 &&& (2147483647 : Int32)) % (12 : Int32))), .val (.ref b1), .val (.ref b26)]) rfl kont) ?_
  show own_Ends _ _ _ _ (T38.setTop (mkF m 151 #[.val (.int z1), .val (.int ((z1 &&& 2147483647) % 12)), .val (.ref b1), .val (.ref b26)] []))
  generalize hi39 : ((z1 &&& (2147483647 : Int32)) % (12 : Int32)) = i39
  rcases (hi39 ▸ own_mod12 z1 : i39 = 0 ∨ i39 = 1 ∨ i39 = 2 ∨ i39 = 3 ∨ i39 = 4 ∨ i39 = 5 ∨ i39 = 6 ∨ i39 = 7 ∨ i39 = 8 ∨ i39 = 9 ∨ i39 = 10 ∨ i39 = 11) with rfl | rfl | rfl | rfl | rfl | rfl | rfl | rfl | rfl | rfl | rfl | rfl
  · skip
    show own_Ends _ _ _ _ (T38.setTop (mkF m 151 #[.val (.int z1), .val (.int 0), .val (.ref b1), .val (.ref b26)] []))
    refine own_to (fun _ kont => XS.aloadN X38.here hx rfl (hb hby at_151) rfl rfl kont) ?_
    show own_Ends _ _ _ _ (T38.setTop (mkF m 152 #[.val (.int z1), .val (.int 0), .val (.ref b1), .val (.ref b26)] [(.ref b1)]))
    refine own_to (fun _ kont => XS.iloadN X38.here hx rfl (hb hby at_152) rfl kont) ?_
    show own_Ends _ _ _ _ (T38.setTop (mkF m 153 #[.val (.int z1), .val (.int 0), .val (.ref b1), .val (.ref b26)] [(.int 0), (.ref b1)]))
    obtain ⟨cl40, Ar40, q40, S40, M40, H40, G40⟩ := id (((((((((((((Vs25.ext E26).other W27 ne_b1_b26).other W28 ne_b1_b26).other W29 ne_b1_b26).other W30 ne_b1_b26).other W31 ne_b1_b26).other W32 ne_b1_b26).other W33 ne_b1_b26).other W34 ne_b1_b26).other W35 ne_b1_b26).other W36 ne_b1_b26).other W37 ne_b1_b26).other W38 ne_b1_b26)
    have hin40 : ¬ ((0 : Int32) < 0 ∨ cl40.slots.size ≤ ((0 : Int32)).toNatClampNeg) := inb_of S40 ⟨by decide, by decide⟩
    have hat40 : cl40.slots[((0 : Int32)).toNatClampNeg]? = some (.ref c0) := Has.at H40 hin40 rfl
    refine own_to (fun _ kont => X38.aaload hx (j := (0 : Int32)) (v := (.ref c0)) (by rw [e38]; exact Ar40.1) (State.isArrayOf_alike hZ.alike Ar40.2.1) rfl Ar40.2.2 hin40 hat40 (g := (mkF m 153 #[.val (.int z1), .val (.int (0 : Int32)), .val (.ref b1), .val (.ref b26)] [(.int (0 : Int32)), (.ref b1)])) rfl rfl (hb hby at_153) _ kont) ?_
    show own_Ends _ _ _ _ (T38.setTop (mkF m 154 #[.val (.int z1), .val (.int 0), .val (.ref b1), .val (.ref b26)] [(.ref c0)]))
    obtain ⟨cq41, kq41, q41a, q41b, q41c⟩ := isOf hZ e38 (E_c0.ext O38.2)
    obtain ⟨_, _, ⟨T41, L41, k41, n41⟩, -, X41, ⟨Lc41, hQ41, l41, y41, z41⟩, st41⟩ := X38.virtualBack hx (y := oM0) (z := oM0) hown (mvT hZ (ow30 hw)) (mvT hZ (ow31 hw)) (notFace_of_selects (args := #[]) (mvT hZ (ow33 hw))) (mvT hZ (ow33 hw)) (mvT hZ (ow32 hw)) (by decide) (backOf (W := 0) (rm2 l Z a0 hw [] c0 c1 c7 c8 h38 n0 O38 S_c1 S_c7 S_c8) hZ (ow34 hw) (ow4 hw) (by decide) (by decide)) q41a q41c (g := (mkF m 154 #[.val (.int z1), .val (.int (0 : Int32)), .val (.ref b1), .val (.ref b26)] [(.ref c0)])) rfl (by rw [hml]; rfl) (Steps.refl _) (argsL := []) (rest := []) (lenOf pd_0 rfl) rfl (by show 2 * 0 + _ ≤ _; exact Nat.le_of_eq rfl) (hb hby at_154) (fun _ _ => ⟨rfl, e38, (own_le rfl), (own_le rfl)⟩)
    dsimp only [Pt.U, Pt.locs, Pt.cells, Pt.slots] at X41 l41 y41 z41 st41 hQ41
    subst y41 z41
    obtain ⟨hv41, N41q, E41⟩ := hQ41
    rw [own_is_no (Fld.ne F_c0 F_c1 (own_intne (by decide))) (Fld.ne F_c0 F_c7 (own_intne (by decide))) (Fld.ne F_c0 F_c8 (own_intne (by decide)))] at hv41
    subst hv41
    have N41 := own_fr l41 N38 N41q
    refine own_tr st41 ?_
    show own_Ends _ _ _ _ (T41.setTop (mkF m 157 #[.val (.int z1), .val (.int 0), .val (.ref b1), .val (.ref b26)] [(.int 0)]))
    refine own_to (fun _ kont => XS.aloadN X41.here hx rfl (hb hby at_157) rfl rfl kont) ?_
    show own_Ends _ _ _ _ (T41.setTop (mkF m 158 #[.val (.int z1), .val (.int 0), .val (.ref b1), .val (.ref b26)] [(.ref b26), (.int 0)]))
    refine own_to (fun _ kont => XS.iloadN X41.here hx rfl (hb hby at_158) rfl kont) ?_
    show own_Ends _ _ _ _ (T41.setTop (mkF m 159 #[.val (.int z1), .val (.int 0), .val (.ref b1), .val (.ref b26)] [(.int 0), (.ref b26), (.int 0)]))
    obtain ⟨cl42, Ar42, q42, S42, M42, H42, G42⟩ := id Vs38
    have hin42 : ¬ ((0 : Int32) < 0 ∨ cl42.slots.size ≤ ((0 : Int32)).toNatClampNeg) := inb_of S42 ⟨by decide, by decide⟩
    have hat42 : cl42.slots[((0 : Int32)).toNatClampNeg]? = some (.int (0 : Int32)) := Has.at H42 hin42 rfl
    refine own_to (fun _ kont => X41.baloadBooleans hx (j := (0 : Int32)) (v := (.int (0 : Int32))) (by rw [E41]; exact Ar42.1) (State.isArrayOf_alike hZ.alike Ar42.2.1) Ar42.2.2 hin42 hat42 (g := (mkF m 159 #[.val (.int z1), .val (.int (0 : Int32)), .val (.ref b1), .val (.ref b26)] [(.int (0 : Int32)), (.ref b26), (.int (0 : Int32))])) rfl rfl (hb hby at_159) _ kont) ?_
    show own_Ends _ _ _ _ (T41.setTop (mkF m 160 #[.val (.int z1), .val (.int 0), .val (.ref b1), .val (.ref b26)] [(.int 0), (.int 0)]))
    refine own_to (fun _ kont => XS.icmpNo X41.here hx rfl (hb hby at_160) rfl (teq (by decide)).2 kont) ?_
    show own_Ends _ _ _ _ (T41.setTop (mkF m 163 #[.val (.int z1), .val (.int 0), .val (.ref b1), .val (.ref b26)] []))
    refine own_to (fun _ kont => XS.iconst X41.here hx rfl (hb hby at_163) kont) ?_
    show own_Ends _ _ _ _ (T41.setTop (mkF m 164 #[.val (.int z1), .val (.int 0), .val (.ref b1), .val (.ref b26)] [(.int 1)]))
    refine own_to (fun _ kont => XS.goto X41.here hx rfl (pc0 := 164) (pc' := 168) rfl (hb hby at_164) (by decide) (by decide) kont) ?_
    show own_Ends _ _ _ _ (T41.setTop (mkF m 168 #[.val (.int z1), .val (.int 0), .val (.ref b1), .val (.ref b26)] [(.int 1)]))
    refine own_leave X41 (v := some (.int (1 : Int32))) (fun h => by rw [Bd.returns] at h; cases h) ?_ (by decide) (by decide) (fun fs hr => retN X41 hx (t := .boolean) Bd.returns (by simp) (hb hby at_168) hr)
    show Q_rm0 Z z1 c0 c1 c2 c3 c4 c5 c6 c7 c8 c9 c10 c11 h0 n0 _ T41.heap _
    rw [E41]
    exact ⟨rfl, N41⟩
  · skip
    show own_Ends _ _ _ _ (T38.setTop (mkF m 151 #[.val (.int z1), .val (.int 1), .val (.ref b1), .val (.ref b26)] []))
    refine own_to (fun _ kont => XS.aloadN X38.here hx rfl (hb hby at_151) rfl rfl kont) ?_
    show own_Ends _ _ _ _ (T38.setTop (mkF m 152 #[.val (.int z1), .val (.int 1), .val (.ref b1), .val (.ref b26)] [(.ref b1)]))
    refine own_to (fun _ kont => XS.iloadN X38.here hx rfl (hb hby at_152) rfl kont) ?_
    show own_Ends _ _ _ _ (T38.setTop (mkF m 153 #[.val (.int z1), .val (.int 1), .val (.ref b1), .val (.ref b26)] [(.int 1), (.ref b1)]))
    obtain ⟨cl43, Ar43, q43, S43, M43, H43, G43⟩ := id (((((((((((((Vs25.ext E26).other W27 ne_b1_b26).other W28 ne_b1_b26).other W29 ne_b1_b26).other W30 ne_b1_b26).other W31 ne_b1_b26).other W32 ne_b1_b26).other W33 ne_b1_b26).other W34 ne_b1_b26).other W35 ne_b1_b26).other W36 ne_b1_b26).other W37 ne_b1_b26).other W38 ne_b1_b26)
    have hin43 : ¬ ((1 : Int32) < 0 ∨ cl43.slots.size ≤ ((1 : Int32)).toNatClampNeg) := inb_of S43 ⟨by decide, by decide⟩
    have hat43 : cl43.slots[((1 : Int32)).toNatClampNeg]? = some (.ref c1) := Has.at H43 hin43 rfl
    refine own_to (fun _ kont => X38.aaload hx (j := (1 : Int32)) (v := (.ref c1)) (by rw [e38]; exact Ar43.1) (State.isArrayOf_alike hZ.alike Ar43.2.1) rfl Ar43.2.2 hin43 hat43 (g := (mkF m 153 #[.val (.int z1), .val (.int (1 : Int32)), .val (.ref b1), .val (.ref b26)] [(.int (1 : Int32)), (.ref b1)])) rfl rfl (hb hby at_153) _ kont) ?_
    show own_Ends _ _ _ _ (T38.setTop (mkF m 154 #[.val (.int z1), .val (.int 1), .val (.ref b1), .val (.ref b26)] [(.ref c1)]))
    obtain ⟨cq44, kq44, q44a, q44b, q44c⟩ := isOf hZ e38 (E_c1.ext O38.2)
    obtain ⟨_, _, ⟨T44, L44, k44, n44⟩, -, X44, ⟨Lc44, hQ44, l44, y44, z44⟩, st44⟩ := X38.virtualBack hx (y := oM0) (z := oM0) hown (mvT hZ (ow30 hw)) (mvT hZ (ow31 hw)) (notFace_of_selects (args := #[]) (mvT hZ (ow33 hw))) (mvT hZ (ow33 hw)) (mvT hZ (ow32 hw)) (by decide) (backOf (W := 0) (rm2 l Z a0 hw [] c1 c1 c7 c8 h38 n0 O38 S_c1 S_c7 S_c8) hZ (ow34 hw) (ow4 hw) (by decide) (by decide)) q44a q44c (g := (mkF m 154 #[.val (.int z1), .val (.int (1 : Int32)), .val (.ref b1), .val (.ref b26)] [(.ref c1)])) rfl (by rw [hml]; rfl) (Steps.refl _) (argsL := []) (rest := []) (lenOf pd_0 rfl) rfl (by show 2 * 0 + _ ≤ _; exact Nat.le_of_eq rfl) (hb hby at_154) (fun _ _ => ⟨rfl, e38, (own_le rfl), (own_le rfl)⟩)
    dsimp only [Pt.U, Pt.locs, Pt.cells, Pt.slots] at X44 l44 y44 z44 st44 hQ44
    subst y44 z44
    obtain ⟨hv44, N44q, E44⟩ := hQ44
    rw [own_is_yes (by simp)] at hv44
    subst hv44
    have N44 := own_fr l44 N38 N44q
    refine own_tr st44 ?_
    show own_Ends _ _ _ _ (T44.setTop (mkF m 157 #[.val (.int z1), .val (.int 1), .val (.ref b1), .val (.ref b26)] [(.int 1)]))
    refine own_to (fun _ kont => XS.aloadN X44.here hx rfl (hb hby at_157) rfl rfl kont) ?_
    show own_Ends _ _ _ _ (T44.setTop (mkF m 158 #[.val (.int z1), .val (.int 1), .val (.ref b1), .val (.ref b26)] [(.ref b26), (.int 1)]))
    refine own_to (fun _ kont => XS.iloadN X44.here hx rfl (hb hby at_158) rfl kont) ?_
    show own_Ends _ _ _ _ (T44.setTop (mkF m 159 #[.val (.int z1), .val (.int 1), .val (.ref b1), .val (.ref b26)] [(.int 1), (.ref b26), (.int 1)]))
    obtain ⟨cl45, Ar45, q45, S45, M45, H45, G45⟩ := id Vs38
    have hin45 : ¬ ((1 : Int32) < 0 ∨ cl45.slots.size ≤ ((1 : Int32)).toNatClampNeg) := inb_of S45 ⟨by decide, by decide⟩
    have hat45 : cl45.slots[((1 : Int32)).toNatClampNeg]? = some (.int (1 : Int32)) := Has.at H45 hin45 rfl
    refine own_to (fun _ kont => X44.baloadBooleans hx (j := (1 : Int32)) (v := (.int (1 : Int32))) (by rw [E44]; exact Ar45.1) (State.isArrayOf_alike hZ.alike Ar45.2.1) Ar45.2.2 hin45 hat45 (g := (mkF m 159 #[.val (.int z1), .val (.int (1 : Int32)), .val (.ref b1), .val (.ref b26)] [(.int (1 : Int32)), (.ref b26), (.int (1 : Int32))])) rfl rfl (hb hby at_159) _ kont) ?_
    show own_Ends _ _ _ _ (T44.setTop (mkF m 160 #[.val (.int z1), .val (.int 1), .val (.ref b1), .val (.ref b26)] [(.int 1), (.int 1)]))
    refine own_to (fun _ kont => XS.icmpNo X44.here hx rfl (hb hby at_160) rfl (teq (by decide)).2 kont) ?_
    show own_Ends _ _ _ _ (T44.setTop (mkF m 163 #[.val (.int z1), .val (.int 1), .val (.ref b1), .val (.ref b26)] []))
    refine own_to (fun _ kont => XS.iconst X44.here hx rfl (hb hby at_163) kont) ?_
    show own_Ends _ _ _ _ (T44.setTop (mkF m 164 #[.val (.int z1), .val (.int 1), .val (.ref b1), .val (.ref b26)] [(.int 1)]))
    refine own_to (fun _ kont => XS.goto X44.here hx rfl (pc0 := 164) (pc' := 168) rfl (hb hby at_164) (by decide) (by decide) kont) ?_
    show own_Ends _ _ _ _ (T44.setTop (mkF m 168 #[.val (.int z1), .val (.int 1), .val (.ref b1), .val (.ref b26)] [(.int 1)]))
    refine own_leave X44 (v := some (.int (1 : Int32))) (fun h => by rw [Bd.returns] at h; cases h) ?_ (by decide) (by decide) (fun fs hr => retN X44 hx (t := .boolean) Bd.returns (by simp) (hb hby at_168) hr)
    show Q_rm0 Z z1 c0 c1 c2 c3 c4 c5 c6 c7 c8 c9 c10 c11 h0 n0 _ T44.heap _
    rw [E44]
    exact ⟨rfl, N44⟩
  · skip
    show own_Ends _ _ _ _ (T38.setTop (mkF m 151 #[.val (.int z1), .val (.int 2), .val (.ref b1), .val (.ref b26)] []))
    refine own_to (fun _ kont => XS.aloadN X38.here hx rfl (hb hby at_151) rfl rfl kont) ?_
    show own_Ends _ _ _ _ (T38.setTop (mkF m 152 #[.val (.int z1), .val (.int 2), .val (.ref b1), .val (.ref b26)] [(.ref b1)]))
    refine own_to (fun _ kont => XS.iloadN X38.here hx rfl (hb hby at_152) rfl kont) ?_
    show own_Ends _ _ _ _ (T38.setTop (mkF m 153 #[.val (.int z1), .val (.int 2), .val (.ref b1), .val (.ref b26)] [(.int 2), (.ref b1)]))
    obtain ⟨cl46, Ar46, q46, S46, M46, H46, G46⟩ := id (((((((((((((Vs25.ext E26).other W27 ne_b1_b26).other W28 ne_b1_b26).other W29 ne_b1_b26).other W30 ne_b1_b26).other W31 ne_b1_b26).other W32 ne_b1_b26).other W33 ne_b1_b26).other W34 ne_b1_b26).other W35 ne_b1_b26).other W36 ne_b1_b26).other W37 ne_b1_b26).other W38 ne_b1_b26)
    have hin46 : ¬ ((2 : Int32) < 0 ∨ cl46.slots.size ≤ ((2 : Int32)).toNatClampNeg) := inb_of S46 ⟨by decide, by decide⟩
    have hat46 : cl46.slots[((2 : Int32)).toNatClampNeg]? = some (.ref c2) := Has.at H46 hin46 rfl
    refine own_to (fun _ kont => X38.aaload hx (j := (2 : Int32)) (v := (.ref c2)) (by rw [e38]; exact Ar46.1) (State.isArrayOf_alike hZ.alike Ar46.2.1) rfl Ar46.2.2 hin46 hat46 (g := (mkF m 153 #[.val (.int z1), .val (.int (2 : Int32)), .val (.ref b1), .val (.ref b26)] [(.int (2 : Int32)), (.ref b1)])) rfl rfl (hb hby at_153) _ kont) ?_
    show own_Ends _ _ _ _ (T38.setTop (mkF m 154 #[.val (.int z1), .val (.int 2), .val (.ref b1), .val (.ref b26)] [(.ref c2)]))
    obtain ⟨cq47, kq47, q47a, q47b, q47c⟩ := isOf hZ e38 (E_c2.ext O38.2)
    obtain ⟨_, _, ⟨T47, L47, k47, n47⟩, -, X47, ⟨Lc47, hQ47, l47, y47, z47⟩, st47⟩ := X38.virtualBack hx (y := oM0) (z := oM0) hown (mvT hZ (ow30 hw)) (mvT hZ (ow31 hw)) (notFace_of_selects (args := #[]) (mvT hZ (ow33 hw))) (mvT hZ (ow33 hw)) (mvT hZ (ow32 hw)) (by decide) (backOf (W := 0) (rm2 l Z a0 hw [] c2 c1 c7 c8 h38 n0 O38 S_c1 S_c7 S_c8) hZ (ow34 hw) (ow4 hw) (by decide) (by decide)) q47a q47c (g := (mkF m 154 #[.val (.int z1), .val (.int (2 : Int32)), .val (.ref b1), .val (.ref b26)] [(.ref c2)])) rfl (by rw [hml]; rfl) (Steps.refl _) (argsL := []) (rest := []) (lenOf pd_0 rfl) rfl (by show 2 * 0 + _ ≤ _; exact Nat.le_of_eq rfl) (hb hby at_154) (fun _ _ => ⟨rfl, e38, (own_le rfl), (own_le rfl)⟩)
    dsimp only [Pt.U, Pt.locs, Pt.cells, Pt.slots] at X47 l47 y47 z47 st47 hQ47
    subst y47 z47
    obtain ⟨hv47, N47q, E47⟩ := hQ47
    rw [own_is_no (Fld.ne F_c2 F_c1 (own_intne (by decide))) (Fld.ne F_c2 F_c7 (own_intne (by decide))) (Fld.ne F_c2 F_c8 (own_intne (by decide)))] at hv47
    subst hv47
    have N47 := own_fr l47 N38 N47q
    refine own_tr st47 ?_
    show own_Ends _ _ _ _ (T47.setTop (mkF m 157 #[.val (.int z1), .val (.int 2), .val (.ref b1), .val (.ref b26)] [(.int 0)]))
    refine own_to (fun _ kont => XS.aloadN X47.here hx rfl (hb hby at_157) rfl rfl kont) ?_
    show own_Ends _ _ _ _ (T47.setTop (mkF m 158 #[.val (.int z1), .val (.int 2), .val (.ref b1), .val (.ref b26)] [(.ref b26), (.int 0)]))
    refine own_to (fun _ kont => XS.iloadN X47.here hx rfl (hb hby at_158) rfl kont) ?_
    show own_Ends _ _ _ _ (T47.setTop (mkF m 159 #[.val (.int z1), .val (.int 2), .val (.ref b1), .val (.ref b26)] [(.int 2), (.ref b26), (.int 0)]))
    obtain ⟨cl48, Ar48, q48, S48, M48, H48, G48⟩ := id Vs38
    have hin48 : ¬ ((2 : Int32) < 0 ∨ cl48.slots.size ≤ ((2 : Int32)).toNatClampNeg) := inb_of S48 ⟨by decide, by decide⟩
    have hat48 : cl48.slots[((2 : Int32)).toNatClampNeg]? = some (.int (0 : Int32)) := Has.at H48 hin48 rfl
    refine own_to (fun _ kont => X47.baloadBooleans hx (j := (2 : Int32)) (v := (.int (0 : Int32))) (by rw [E47]; exact Ar48.1) (State.isArrayOf_alike hZ.alike Ar48.2.1) Ar48.2.2 hin48 hat48 (g := (mkF m 159 #[.val (.int z1), .val (.int (2 : Int32)), .val (.ref b1), .val (.ref b26)] [(.int (2 : Int32)), (.ref b26), (.int (0 : Int32))])) rfl rfl (hb hby at_159) _ kont) ?_
    show own_Ends _ _ _ _ (T47.setTop (mkF m 160 #[.val (.int z1), .val (.int 2), .val (.ref b1), .val (.ref b26)] [(.int 0), (.int 0)]))
    refine own_to (fun _ kont => XS.icmpNo X47.here hx rfl (hb hby at_160) rfl (teq (by decide)).2 kont) ?_
    show own_Ends _ _ _ _ (T47.setTop (mkF m 163 #[.val (.int z1), .val (.int 2), .val (.ref b1), .val (.ref b26)] []))
    refine own_to (fun _ kont => XS.iconst X47.here hx rfl (hb hby at_163) kont) ?_
    show own_Ends _ _ _ _ (T47.setTop (mkF m 164 #[.val (.int z1), .val (.int 2), .val (.ref b1), .val (.ref b26)] [(.int 1)]))
    refine own_to (fun _ kont => XS.goto X47.here hx rfl (pc0 := 164) (pc' := 168) rfl (hb hby at_164) (by decide) (by decide) kont) ?_
    show own_Ends _ _ _ _ (T47.setTop (mkF m 168 #[.val (.int z1), .val (.int 2), .val (.ref b1), .val (.ref b26)] [(.int 1)]))
    refine own_leave X47 (v := some (.int (1 : Int32))) (fun h => by rw [Bd.returns] at h; cases h) ?_ (by decide) (by decide) (fun fs hr => retN X47 hx (t := .boolean) Bd.returns (by simp) (hb hby at_168) hr)
    show Q_rm0 Z z1 c0 c1 c2 c3 c4 c5 c6 c7 c8 c9 c10 c11 h0 n0 _ T47.heap _
    rw [E47]
    exact ⟨rfl, N47⟩
  · skip
    show own_Ends _ _ _ _ (T38.setTop (mkF m 151 #[.val (.int z1), .val (.int 3), .val (.ref b1), .val (.ref b26)] []))
    refine own_to (fun _ kont => XS.aloadN X38.here hx rfl (hb hby at_151) rfl rfl kont) ?_
    show own_Ends _ _ _ _ (T38.setTop (mkF m 152 #[.val (.int z1), .val (.int 3), .val (.ref b1), .val (.ref b26)] [(.ref b1)]))
    refine own_to (fun _ kont => XS.iloadN X38.here hx rfl (hb hby at_152) rfl kont) ?_
    show own_Ends _ _ _ _ (T38.setTop (mkF m 153 #[.val (.int z1), .val (.int 3), .val (.ref b1), .val (.ref b26)] [(.int 3), (.ref b1)]))
    obtain ⟨cl49, Ar49, q49, S49, M49, H49, G49⟩ := id (((((((((((((Vs25.ext E26).other W27 ne_b1_b26).other W28 ne_b1_b26).other W29 ne_b1_b26).other W30 ne_b1_b26).other W31 ne_b1_b26).other W32 ne_b1_b26).other W33 ne_b1_b26).other W34 ne_b1_b26).other W35 ne_b1_b26).other W36 ne_b1_b26).other W37 ne_b1_b26).other W38 ne_b1_b26)
    have hin49 : ¬ ((3 : Int32) < 0 ∨ cl49.slots.size ≤ ((3 : Int32)).toNatClampNeg) := inb_of S49 ⟨by decide, by decide⟩
    have hat49 : cl49.slots[((3 : Int32)).toNatClampNeg]? = some (.ref c3) := Has.at H49 hin49 rfl
    refine own_to (fun _ kont => X38.aaload hx (j := (3 : Int32)) (v := (.ref c3)) (by rw [e38]; exact Ar49.1) (State.isArrayOf_alike hZ.alike Ar49.2.1) rfl Ar49.2.2 hin49 hat49 (g := (mkF m 153 #[.val (.int z1), .val (.int (3 : Int32)), .val (.ref b1), .val (.ref b26)] [(.int (3 : Int32)), (.ref b1)])) rfl rfl (hb hby at_153) _ kont) ?_
    show own_Ends _ _ _ _ (T38.setTop (mkF m 154 #[.val (.int z1), .val (.int 3), .val (.ref b1), .val (.ref b26)] [(.ref c3)]))
    obtain ⟨cq50, kq50, q50a, q50b, q50c⟩ := isOf hZ e38 (E_c3.ext O38.2)
    obtain ⟨_, _, ⟨T50, L50, k50, n50⟩, -, X50, ⟨Lc50, hQ50, l50, y50, z50⟩, st50⟩ := X38.virtualBack hx (y := oM0) (z := oM0) hown (mvT hZ (ow30 hw)) (mvT hZ (ow31 hw)) (notFace_of_selects (args := #[]) (mvT hZ (ow33 hw))) (mvT hZ (ow33 hw)) (mvT hZ (ow32 hw)) (by decide) (backOf (W := 0) (rm2 l Z a0 hw [] c3 c1 c7 c8 h38 n0 O38 S_c1 S_c7 S_c8) hZ (ow34 hw) (ow4 hw) (by decide) (by decide)) q50a q50c (g := (mkF m 154 #[.val (.int z1), .val (.int (3 : Int32)), .val (.ref b1), .val (.ref b26)] [(.ref c3)])) rfl (by rw [hml]; rfl) (Steps.refl _) (argsL := []) (rest := []) (lenOf pd_0 rfl) rfl (by show 2 * 0 + _ ≤ _; exact Nat.le_of_eq rfl) (hb hby at_154) (fun _ _ => ⟨rfl, e38, (own_le rfl), (own_le rfl)⟩)
    dsimp only [Pt.U, Pt.locs, Pt.cells, Pt.slots] at X50 l50 y50 z50 st50 hQ50
    subst y50 z50
    obtain ⟨hv50, N50q, E50⟩ := hQ50
    rw [own_is_no (Fld.ne F_c3 F_c1 (own_intne (by decide))) (Fld.ne F_c3 F_c7 (own_intne (by decide))) (Fld.ne F_c3 F_c8 (own_intne (by decide)))] at hv50
    subst hv50
    have N50 := own_fr l50 N38 N50q
    refine own_tr st50 ?_
    show own_Ends _ _ _ _ (T50.setTop (mkF m 157 #[.val (.int z1), .val (.int 3), .val (.ref b1), .val (.ref b26)] [(.int 0)]))
    refine own_to (fun _ kont => XS.aloadN X50.here hx rfl (hb hby at_157) rfl rfl kont) ?_
    show own_Ends _ _ _ _ (T50.setTop (mkF m 158 #[.val (.int z1), .val (.int 3), .val (.ref b1), .val (.ref b26)] [(.ref b26), (.int 0)]))
    refine own_to (fun _ kont => XS.iloadN X50.here hx rfl (hb hby at_158) rfl kont) ?_
    show own_Ends _ _ _ _ (T50.setTop (mkF m 159 #[.val (.int z1), .val (.int 3), .val (.ref b1), .val (.ref b26)] [(.int 3), (.ref b26), (.int 0)]))
    obtain ⟨cl51, Ar51, q51, S51, M51, H51, G51⟩ := id Vs38
    have hin51 : ¬ ((3 : Int32) < 0 ∨ cl51.slots.size ≤ ((3 : Int32)).toNatClampNeg) := inb_of S51 ⟨by decide, by decide⟩
    have hat51 : cl51.slots[((3 : Int32)).toNatClampNeg]? = some (.int (0 : Int32)) := Has.at H51 hin51 rfl
    refine own_to (fun _ kont => X50.baloadBooleans hx (j := (3 : Int32)) (v := (.int (0 : Int32))) (by rw [E50]; exact Ar51.1) (State.isArrayOf_alike hZ.alike Ar51.2.1) Ar51.2.2 hin51 hat51 (g := (mkF m 159 #[.val (.int z1), .val (.int (3 : Int32)), .val (.ref b1), .val (.ref b26)] [(.int (3 : Int32)), (.ref b26), (.int (0 : Int32))])) rfl rfl (hb hby at_159) _ kont) ?_
    show own_Ends _ _ _ _ (T50.setTop (mkF m 160 #[.val (.int z1), .val (.int 3), .val (.ref b1), .val (.ref b26)] [(.int 0), (.int 0)]))
    refine own_to (fun _ kont => XS.icmpNo X50.here hx rfl (hb hby at_160) rfl (teq (by decide)).2 kont) ?_
    show own_Ends _ _ _ _ (T50.setTop (mkF m 163 #[.val (.int z1), .val (.int 3), .val (.ref b1), .val (.ref b26)] []))
    refine own_to (fun _ kont => XS.iconst X50.here hx rfl (hb hby at_163) kont) ?_
    show own_Ends _ _ _ _ (T50.setTop (mkF m 164 #[.val (.int z1), .val (.int 3), .val (.ref b1), .val (.ref b26)] [(.int 1)]))
    refine own_to (fun _ kont => XS.goto X50.here hx rfl (pc0 := 164) (pc' := 168) rfl (hb hby at_164) (by decide) (by decide) kont) ?_
    show own_Ends _ _ _ _ (T50.setTop (mkF m 168 #[.val (.int z1), .val (.int 3), .val (.ref b1), .val (.ref b26)] [(.int 1)]))
    refine own_leave X50 (v := some (.int (1 : Int32))) (fun h => by rw [Bd.returns] at h; cases h) ?_ (by decide) (by decide) (fun fs hr => retN X50 hx (t := .boolean) Bd.returns (by simp) (hb hby at_168) hr)
    show Q_rm0 Z z1 c0 c1 c2 c3 c4 c5 c6 c7 c8 c9 c10 c11 h0 n0 _ T50.heap _
    rw [E50]
    exact ⟨rfl, N50⟩
  · skip
    show own_Ends _ _ _ _ (T38.setTop (mkF m 151 #[.val (.int z1), .val (.int 4), .val (.ref b1), .val (.ref b26)] []))
    refine own_to (fun _ kont => XS.aloadN X38.here hx rfl (hb hby at_151) rfl rfl kont) ?_
    show own_Ends _ _ _ _ (T38.setTop (mkF m 152 #[.val (.int z1), .val (.int 4), .val (.ref b1), .val (.ref b26)] [(.ref b1)]))
    refine own_to (fun _ kont => XS.iloadN X38.here hx rfl (hb hby at_152) rfl kont) ?_
    show own_Ends _ _ _ _ (T38.setTop (mkF m 153 #[.val (.int z1), .val (.int 4), .val (.ref b1), .val (.ref b26)] [(.int 4), (.ref b1)]))
    obtain ⟨cl52, Ar52, q52, S52, M52, H52, G52⟩ := id (((((((((((((Vs25.ext E26).other W27 ne_b1_b26).other W28 ne_b1_b26).other W29 ne_b1_b26).other W30 ne_b1_b26).other W31 ne_b1_b26).other W32 ne_b1_b26).other W33 ne_b1_b26).other W34 ne_b1_b26).other W35 ne_b1_b26).other W36 ne_b1_b26).other W37 ne_b1_b26).other W38 ne_b1_b26)
    have hin52 : ¬ ((4 : Int32) < 0 ∨ cl52.slots.size ≤ ((4 : Int32)).toNatClampNeg) := inb_of S52 ⟨by decide, by decide⟩
    have hat52 : cl52.slots[((4 : Int32)).toNatClampNeg]? = some (.ref c4) := Has.at H52 hin52 rfl
    refine own_to (fun _ kont => X38.aaload hx (j := (4 : Int32)) (v := (.ref c4)) (by rw [e38]; exact Ar52.1) (State.isArrayOf_alike hZ.alike Ar52.2.1) rfl Ar52.2.2 hin52 hat52 (g := (mkF m 153 #[.val (.int z1), .val (.int (4 : Int32)), .val (.ref b1), .val (.ref b26)] [(.int (4 : Int32)), (.ref b1)])) rfl rfl (hb hby at_153) _ kont) ?_
    show own_Ends _ _ _ _ (T38.setTop (mkF m 154 #[.val (.int z1), .val (.int 4), .val (.ref b1), .val (.ref b26)] [(.ref c4)]))
    obtain ⟨cq53, kq53, q53a, q53b, q53c⟩ := isOf hZ e38 (E_c4.ext O38.2)
    obtain ⟨_, _, ⟨T53, L53, k53, n53⟩, -, X53, ⟨Lc53, hQ53, l53, y53, z53⟩, st53⟩ := X38.virtualBack hx (y := oM0) (z := oM0) hown (mvT hZ (ow30 hw)) (mvT hZ (ow31 hw)) (notFace_of_selects (args := #[]) (mvT hZ (ow33 hw))) (mvT hZ (ow33 hw)) (mvT hZ (ow32 hw)) (by decide) (backOf (W := 0) (rm2 l Z a0 hw [] c4 c1 c7 c8 h38 n0 O38 S_c1 S_c7 S_c8) hZ (ow34 hw) (ow4 hw) (by decide) (by decide)) q53a q53c (g := (mkF m 154 #[.val (.int z1), .val (.int (4 : Int32)), .val (.ref b1), .val (.ref b26)] [(.ref c4)])) rfl (by rw [hml]; rfl) (Steps.refl _) (argsL := []) (rest := []) (lenOf pd_0 rfl) rfl (by show 2 * 0 + _ ≤ _; exact Nat.le_of_eq rfl) (hb hby at_154) (fun _ _ => ⟨rfl, e38, (own_le rfl), (own_le rfl)⟩)
    dsimp only [Pt.U, Pt.locs, Pt.cells, Pt.slots] at X53 l53 y53 z53 st53 hQ53
    subst y53 z53
    obtain ⟨hv53, N53q, E53⟩ := hQ53
    rw [own_is_no (Fld.ne F_c4 F_c1 (own_intne (by decide))) (Fld.ne F_c4 F_c7 (own_intne (by decide))) (Fld.ne F_c4 F_c8 (own_intne (by decide)))] at hv53
    subst hv53
    have N53 := own_fr l53 N38 N53q
    refine own_tr st53 ?_
    show own_Ends _ _ _ _ (T53.setTop (mkF m 157 #[.val (.int z1), .val (.int 4), .val (.ref b1), .val (.ref b26)] [(.int 0)]))
    refine own_to (fun _ kont => XS.aloadN X53.here hx rfl (hb hby at_157) rfl rfl kont) ?_
    show own_Ends _ _ _ _ (T53.setTop (mkF m 158 #[.val (.int z1), .val (.int 4), .val (.ref b1), .val (.ref b26)] [(.ref b26), (.int 0)]))
    refine own_to (fun _ kont => XS.iloadN X53.here hx rfl (hb hby at_158) rfl kont) ?_
    show own_Ends _ _ _ _ (T53.setTop (mkF m 159 #[.val (.int z1), .val (.int 4), .val (.ref b1), .val (.ref b26)] [(.int 4), (.ref b26), (.int 0)]))
    obtain ⟨cl54, Ar54, q54, S54, M54, H54, G54⟩ := id Vs38
    have hin54 : ¬ ((4 : Int32) < 0 ∨ cl54.slots.size ≤ ((4 : Int32)).toNatClampNeg) := inb_of S54 ⟨by decide, by decide⟩
    have hat54 : cl54.slots[((4 : Int32)).toNatClampNeg]? = some (.int (0 : Int32)) := Has.at H54 hin54 rfl
    refine own_to (fun _ kont => X53.baloadBooleans hx (j := (4 : Int32)) (v := (.int (0 : Int32))) (by rw [E53]; exact Ar54.1) (State.isArrayOf_alike hZ.alike Ar54.2.1) Ar54.2.2 hin54 hat54 (g := (mkF m 159 #[.val (.int z1), .val (.int (4 : Int32)), .val (.ref b1), .val (.ref b26)] [(.int (4 : Int32)), (.ref b26), (.int (0 : Int32))])) rfl rfl (hb hby at_159) _ kont) ?_
    show own_Ends _ _ _ _ (T53.setTop (mkF m 160 #[.val (.int z1), .val (.int 4), .val (.ref b1), .val (.ref b26)] [(.int 0), (.int 0)]))
    refine own_to (fun _ kont => XS.icmpNo X53.here hx rfl (hb hby at_160) rfl (teq (by decide)).2 kont) ?_
    show own_Ends _ _ _ _ (T53.setTop (mkF m 163 #[.val (.int z1), .val (.int 4), .val (.ref b1), .val (.ref b26)] []))
    refine own_to (fun _ kont => XS.iconst X53.here hx rfl (hb hby at_163) kont) ?_
    show own_Ends _ _ _ _ (T53.setTop (mkF m 164 #[.val (.int z1), .val (.int 4), .val (.ref b1), .val (.ref b26)] [(.int 1)]))
    refine own_to (fun _ kont => XS.goto X53.here hx rfl (pc0 := 164) (pc' := 168) rfl (hb hby at_164) (by decide) (by decide) kont) ?_
    show own_Ends _ _ _ _ (T53.setTop (mkF m 168 #[.val (.int z1), .val (.int 4), .val (.ref b1), .val (.ref b26)] [(.int 1)]))
    refine own_leave X53 (v := some (.int (1 : Int32))) (fun h => by rw [Bd.returns] at h; cases h) ?_ (by decide) (by decide) (fun fs hr => retN X53 hx (t := .boolean) Bd.returns (by simp) (hb hby at_168) hr)
    show Q_rm0 Z z1 c0 c1 c2 c3 c4 c5 c6 c7 c8 c9 c10 c11 h0 n0 _ T53.heap _
    rw [E53]
    exact ⟨rfl, N53⟩
  · skip
    show own_Ends _ _ _ _ (T38.setTop (mkF m 151 #[.val (.int z1), .val (.int 5), .val (.ref b1), .val (.ref b26)] []))
    refine own_to (fun _ kont => XS.aloadN X38.here hx rfl (hb hby at_151) rfl rfl kont) ?_
    show own_Ends _ _ _ _ (T38.setTop (mkF m 152 #[.val (.int z1), .val (.int 5), .val (.ref b1), .val (.ref b26)] [(.ref b1)]))
    refine own_to (fun _ kont => XS.iloadN X38.here hx rfl (hb hby at_152) rfl kont) ?_
    show own_Ends _ _ _ _ (T38.setTop (mkF m 153 #[.val (.int z1), .val (.int 5), .val (.ref b1), .val (.ref b26)] [(.int 5), (.ref b1)]))
    obtain ⟨cl55, Ar55, q55, S55, M55, H55, G55⟩ := id (((((((((((((Vs25.ext E26).other W27 ne_b1_b26).other W28 ne_b1_b26).other W29 ne_b1_b26).other W30 ne_b1_b26).other W31 ne_b1_b26).other W32 ne_b1_b26).other W33 ne_b1_b26).other W34 ne_b1_b26).other W35 ne_b1_b26).other W36 ne_b1_b26).other W37 ne_b1_b26).other W38 ne_b1_b26)
    have hin55 : ¬ ((5 : Int32) < 0 ∨ cl55.slots.size ≤ ((5 : Int32)).toNatClampNeg) := inb_of S55 ⟨by decide, by decide⟩
    have hat55 : cl55.slots[((5 : Int32)).toNatClampNeg]? = some (.ref c5) := Has.at H55 hin55 rfl
    refine own_to (fun _ kont => X38.aaload hx (j := (5 : Int32)) (v := (.ref c5)) (by rw [e38]; exact Ar55.1) (State.isArrayOf_alike hZ.alike Ar55.2.1) rfl Ar55.2.2 hin55 hat55 (g := (mkF m 153 #[.val (.int z1), .val (.int (5 : Int32)), .val (.ref b1), .val (.ref b26)] [(.int (5 : Int32)), (.ref b1)])) rfl rfl (hb hby at_153) _ kont) ?_
    show own_Ends _ _ _ _ (T38.setTop (mkF m 154 #[.val (.int z1), .val (.int 5), .val (.ref b1), .val (.ref b26)] [(.ref c5)]))
    obtain ⟨cq56, kq56, q56a, q56b, q56c⟩ := isOf hZ e38 (E_c5.ext O38.2)
    obtain ⟨_, _, ⟨T56, L56, k56, n56⟩, -, X56, ⟨Lc56, hQ56, l56, y56, z56⟩, st56⟩ := X38.virtualBack hx (y := oM0) (z := oM0) hown (mvT hZ (ow30 hw)) (mvT hZ (ow31 hw)) (notFace_of_selects (args := #[]) (mvT hZ (ow33 hw))) (mvT hZ (ow33 hw)) (mvT hZ (ow32 hw)) (by decide) (backOf (W := 0) (rm2 l Z a0 hw [] c5 c1 c7 c8 h38 n0 O38 S_c1 S_c7 S_c8) hZ (ow34 hw) (ow4 hw) (by decide) (by decide)) q56a q56c (g := (mkF m 154 #[.val (.int z1), .val (.int (5 : Int32)), .val (.ref b1), .val (.ref b26)] [(.ref c5)])) rfl (by rw [hml]; rfl) (Steps.refl _) (argsL := []) (rest := []) (lenOf pd_0 rfl) rfl (by show 2 * 0 + _ ≤ _; exact Nat.le_of_eq rfl) (hb hby at_154) (fun _ _ => ⟨rfl, e38, (own_le rfl), (own_le rfl)⟩)
    dsimp only [Pt.U, Pt.locs, Pt.cells, Pt.slots] at X56 l56 y56 z56 st56 hQ56
    subst y56 z56
    obtain ⟨hv56, N56q, E56⟩ := hQ56
    rw [own_is_no (Fld.ne F_c5 F_c1 (own_intne (by decide))) (Fld.ne F_c5 F_c7 (own_intne (by decide))) (Fld.ne F_c5 F_c8 (own_intne (by decide)))] at hv56
    subst hv56
    have N56 := own_fr l56 N38 N56q
    refine own_tr st56 ?_
    show own_Ends _ _ _ _ (T56.setTop (mkF m 157 #[.val (.int z1), .val (.int 5), .val (.ref b1), .val (.ref b26)] [(.int 0)]))
    refine own_to (fun _ kont => XS.aloadN X56.here hx rfl (hb hby at_157) rfl rfl kont) ?_
    show own_Ends _ _ _ _ (T56.setTop (mkF m 158 #[.val (.int z1), .val (.int 5), .val (.ref b1), .val (.ref b26)] [(.ref b26), (.int 0)]))
    refine own_to (fun _ kont => XS.iloadN X56.here hx rfl (hb hby at_158) rfl kont) ?_
    show own_Ends _ _ _ _ (T56.setTop (mkF m 159 #[.val (.int z1), .val (.int 5), .val (.ref b1), .val (.ref b26)] [(.int 5), (.ref b26), (.int 0)]))
    obtain ⟨cl57, Ar57, q57, S57, M57, H57, G57⟩ := id Vs38
    have hin57 : ¬ ((5 : Int32) < 0 ∨ cl57.slots.size ≤ ((5 : Int32)).toNatClampNeg) := inb_of S57 ⟨by decide, by decide⟩
    have hat57 : cl57.slots[((5 : Int32)).toNatClampNeg]? = some (.int (0 : Int32)) := Has.at H57 hin57 rfl
    refine own_to (fun _ kont => X56.baloadBooleans hx (j := (5 : Int32)) (v := (.int (0 : Int32))) (by rw [E56]; exact Ar57.1) (State.isArrayOf_alike hZ.alike Ar57.2.1) Ar57.2.2 hin57 hat57 (g := (mkF m 159 #[.val (.int z1), .val (.int (5 : Int32)), .val (.ref b1), .val (.ref b26)] [(.int (5 : Int32)), (.ref b26), (.int (0 : Int32))])) rfl rfl (hb hby at_159) _ kont) ?_
    show own_Ends _ _ _ _ (T56.setTop (mkF m 160 #[.val (.int z1), .val (.int 5), .val (.ref b1), .val (.ref b26)] [(.int 0), (.int 0)]))
    refine own_to (fun _ kont => XS.icmpNo X56.here hx rfl (hb hby at_160) rfl (teq (by decide)).2 kont) ?_
    show own_Ends _ _ _ _ (T56.setTop (mkF m 163 #[.val (.int z1), .val (.int 5), .val (.ref b1), .val (.ref b26)] []))
    refine own_to (fun _ kont => XS.iconst X56.here hx rfl (hb hby at_163) kont) ?_
    show own_Ends _ _ _ _ (T56.setTop (mkF m 164 #[.val (.int z1), .val (.int 5), .val (.ref b1), .val (.ref b26)] [(.int 1)]))
    refine own_to (fun _ kont => XS.goto X56.here hx rfl (pc0 := 164) (pc' := 168) rfl (hb hby at_164) (by decide) (by decide) kont) ?_
    show own_Ends _ _ _ _ (T56.setTop (mkF m 168 #[.val (.int z1), .val (.int 5), .val (.ref b1), .val (.ref b26)] [(.int 1)]))
    refine own_leave X56 (v := some (.int (1 : Int32))) (fun h => by rw [Bd.returns] at h; cases h) ?_ (by decide) (by decide) (fun fs hr => retN X56 hx (t := .boolean) Bd.returns (by simp) (hb hby at_168) hr)
    show Q_rm0 Z z1 c0 c1 c2 c3 c4 c5 c6 c7 c8 c9 c10 c11 h0 n0 _ T56.heap _
    rw [E56]
    exact ⟨rfl, N56⟩
  · skip
    show own_Ends _ _ _ _ (T38.setTop (mkF m 151 #[.val (.int z1), .val (.int 6), .val (.ref b1), .val (.ref b26)] []))
    refine own_to (fun _ kont => XS.aloadN X38.here hx rfl (hb hby at_151) rfl rfl kont) ?_
    show own_Ends _ _ _ _ (T38.setTop (mkF m 152 #[.val (.int z1), .val (.int 6), .val (.ref b1), .val (.ref b26)] [(.ref b1)]))
    refine own_to (fun _ kont => XS.iloadN X38.here hx rfl (hb hby at_152) rfl kont) ?_
    show own_Ends _ _ _ _ (T38.setTop (mkF m 153 #[.val (.int z1), .val (.int 6), .val (.ref b1), .val (.ref b26)] [(.int 6), (.ref b1)]))
    obtain ⟨cl58, Ar58, q58, S58, M58, H58, G58⟩ := id (((((((((((((Vs25.ext E26).other W27 ne_b1_b26).other W28 ne_b1_b26).other W29 ne_b1_b26).other W30 ne_b1_b26).other W31 ne_b1_b26).other W32 ne_b1_b26).other W33 ne_b1_b26).other W34 ne_b1_b26).other W35 ne_b1_b26).other W36 ne_b1_b26).other W37 ne_b1_b26).other W38 ne_b1_b26)
    have hin58 : ¬ ((6 : Int32) < 0 ∨ cl58.slots.size ≤ ((6 : Int32)).toNatClampNeg) := inb_of S58 ⟨by decide, by decide⟩
    have hat58 : cl58.slots[((6 : Int32)).toNatClampNeg]? = some (.ref c6) := Has.at H58 hin58 rfl
    refine own_to (fun _ kont => X38.aaload hx (j := (6 : Int32)) (v := (.ref c6)) (by rw [e38]; exact Ar58.1) (State.isArrayOf_alike hZ.alike Ar58.2.1) rfl Ar58.2.2 hin58 hat58 (g := (mkF m 153 #[.val (.int z1), .val (.int (6 : Int32)), .val (.ref b1), .val (.ref b26)] [(.int (6 : Int32)), (.ref b1)])) rfl rfl (hb hby at_153) _ kont) ?_
    show own_Ends _ _ _ _ (T38.setTop (mkF m 154 #[.val (.int z1), .val (.int 6), .val (.ref b1), .val (.ref b26)] [(.ref c6)]))
    obtain ⟨cq59, kq59, q59a, q59b, q59c⟩ := isOf hZ e38 (E_c6.ext O38.2)
    obtain ⟨_, _, ⟨T59, L59, k59, n59⟩, -, X59, ⟨Lc59, hQ59, l59, y59, z59⟩, st59⟩ := X38.virtualBack hx (y := oM0) (z := oM0) hown (mvT hZ (ow30 hw)) (mvT hZ (ow31 hw)) (notFace_of_selects (args := #[]) (mvT hZ (ow33 hw))) (mvT hZ (ow33 hw)) (mvT hZ (ow32 hw)) (by decide) (backOf (W := 0) (rm2 l Z a0 hw [] c6 c1 c7 c8 h38 n0 O38 S_c1 S_c7 S_c8) hZ (ow34 hw) (ow4 hw) (by decide) (by decide)) q59a q59c (g := (mkF m 154 #[.val (.int z1), .val (.int (6 : Int32)), .val (.ref b1), .val (.ref b26)] [(.ref c6)])) rfl (by rw [hml]; rfl) (Steps.refl _) (argsL := []) (rest := []) (lenOf pd_0 rfl) rfl (by show 2 * 0 + _ ≤ _; exact Nat.le_of_eq rfl) (hb hby at_154) (fun _ _ => ⟨rfl, e38, (own_le rfl), (own_le rfl)⟩)
    dsimp only [Pt.U, Pt.locs, Pt.cells, Pt.slots] at X59 l59 y59 z59 st59 hQ59
    subst y59 z59
    obtain ⟨hv59, N59q, E59⟩ := hQ59
    rw [own_is_no (Fld.ne F_c6 F_c1 (own_intne (by decide))) (Fld.ne F_c6 F_c7 (own_intne (by decide))) (Fld.ne F_c6 F_c8 (own_intne (by decide)))] at hv59
    subst hv59
    have N59 := own_fr l59 N38 N59q
    refine own_tr st59 ?_
    show own_Ends _ _ _ _ (T59.setTop (mkF m 157 #[.val (.int z1), .val (.int 6), .val (.ref b1), .val (.ref b26)] [(.int 0)]))
    refine own_to (fun _ kont => XS.aloadN X59.here hx rfl (hb hby at_157) rfl rfl kont) ?_
    show own_Ends _ _ _ _ (T59.setTop (mkF m 158 #[.val (.int z1), .val (.int 6), .val (.ref b1), .val (.ref b26)] [(.ref b26), (.int 0)]))
    refine own_to (fun _ kont => XS.iloadN X59.here hx rfl (hb hby at_158) rfl kont) ?_
    show own_Ends _ _ _ _ (T59.setTop (mkF m 159 #[.val (.int z1), .val (.int 6), .val (.ref b1), .val (.ref b26)] [(.int 6), (.ref b26), (.int 0)]))
    obtain ⟨cl60, Ar60, q60, S60, M60, H60, G60⟩ := id Vs38
    have hin60 : ¬ ((6 : Int32) < 0 ∨ cl60.slots.size ≤ ((6 : Int32)).toNatClampNeg) := inb_of S60 ⟨by decide, by decide⟩
    have hat60 : cl60.slots[((6 : Int32)).toNatClampNeg]? = some (.int (0 : Int32)) := Has.at H60 hin60 rfl
    refine own_to (fun _ kont => X59.baloadBooleans hx (j := (6 : Int32)) (v := (.int (0 : Int32))) (by rw [E59]; exact Ar60.1) (State.isArrayOf_alike hZ.alike Ar60.2.1) Ar60.2.2 hin60 hat60 (g := (mkF m 159 #[.val (.int z1), .val (.int (6 : Int32)), .val (.ref b1), .val (.ref b26)] [(.int (6 : Int32)), (.ref b26), (.int (0 : Int32))])) rfl rfl (hb hby at_159) _ kont) ?_
    show own_Ends _ _ _ _ (T59.setTop (mkF m 160 #[.val (.int z1), .val (.int 6), .val (.ref b1), .val (.ref b26)] [(.int 0), (.int 0)]))
    refine own_to (fun _ kont => XS.icmpNo X59.here hx rfl (hb hby at_160) rfl (teq (by decide)).2 kont) ?_
    show own_Ends _ _ _ _ (T59.setTop (mkF m 163 #[.val (.int z1), .val (.int 6), .val (.ref b1), .val (.ref b26)] []))
    refine own_to (fun _ kont => XS.iconst X59.here hx rfl (hb hby at_163) kont) ?_
    show own_Ends _ _ _ _ (T59.setTop (mkF m 164 #[.val (.int z1), .val (.int 6), .val (.ref b1), .val (.ref b26)] [(.int 1)]))
    refine own_to (fun _ kont => XS.goto X59.here hx rfl (pc0 := 164) (pc' := 168) rfl (hb hby at_164) (by decide) (by decide) kont) ?_
    show own_Ends _ _ _ _ (T59.setTop (mkF m 168 #[.val (.int z1), .val (.int 6), .val (.ref b1), .val (.ref b26)] [(.int 1)]))
    refine own_leave X59 (v := some (.int (1 : Int32))) (fun h => by rw [Bd.returns] at h; cases h) ?_ (by decide) (by decide) (fun fs hr => retN X59 hx (t := .boolean) Bd.returns (by simp) (hb hby at_168) hr)
    show Q_rm0 Z z1 c0 c1 c2 c3 c4 c5 c6 c7 c8 c9 c10 c11 h0 n0 _ T59.heap _
    rw [E59]
    exact ⟨rfl, N59⟩
  · skip
    show own_Ends _ _ _ _ (T38.setTop (mkF m 151 #[.val (.int z1), .val (.int 7), .val (.ref b1), .val (.ref b26)] []))
    refine own_to (fun _ kont => XS.aloadN X38.here hx rfl (hb hby at_151) rfl rfl kont) ?_
    show own_Ends _ _ _ _ (T38.setTop (mkF m 152 #[.val (.int z1), .val (.int 7), .val (.ref b1), .val (.ref b26)] [(.ref b1)]))
    refine own_to (fun _ kont => XS.iloadN X38.here hx rfl (hb hby at_152) rfl kont) ?_
    show own_Ends _ _ _ _ (T38.setTop (mkF m 153 #[.val (.int z1), .val (.int 7), .val (.ref b1), .val (.ref b26)] [(.int 7), (.ref b1)]))
    obtain ⟨cl61, Ar61, q61, S61, M61, H61, G61⟩ := id (((((((((((((Vs25.ext E26).other W27 ne_b1_b26).other W28 ne_b1_b26).other W29 ne_b1_b26).other W30 ne_b1_b26).other W31 ne_b1_b26).other W32 ne_b1_b26).other W33 ne_b1_b26).other W34 ne_b1_b26).other W35 ne_b1_b26).other W36 ne_b1_b26).other W37 ne_b1_b26).other W38 ne_b1_b26)
    have hin61 : ¬ ((7 : Int32) < 0 ∨ cl61.slots.size ≤ ((7 : Int32)).toNatClampNeg) := inb_of S61 ⟨by decide, by decide⟩
    have hat61 : cl61.slots[((7 : Int32)).toNatClampNeg]? = some (.ref c7) := Has.at H61 hin61 rfl
    refine own_to (fun _ kont => X38.aaload hx (j := (7 : Int32)) (v := (.ref c7)) (by rw [e38]; exact Ar61.1) (State.isArrayOf_alike hZ.alike Ar61.2.1) rfl Ar61.2.2 hin61 hat61 (g := (mkF m 153 #[.val (.int z1), .val (.int (7 : Int32)), .val (.ref b1), .val (.ref b26)] [(.int (7 : Int32)), (.ref b1)])) rfl rfl (hb hby at_153) _ kont) ?_
    show own_Ends _ _ _ _ (T38.setTop (mkF m 154 #[.val (.int z1), .val (.int 7), .val (.ref b1), .val (.ref b26)] [(.ref c7)]))
    obtain ⟨cq62, kq62, q62a, q62b, q62c⟩ := isOf hZ e38 (E_c7.ext O38.2)
    obtain ⟨_, _, ⟨T62, L62, k62, n62⟩, -, X62, ⟨Lc62, hQ62, l62, y62, z62⟩, st62⟩ := X38.virtualBack hx (y := oM0) (z := oM0) hown (mvT hZ (ow30 hw)) (mvT hZ (ow31 hw)) (notFace_of_selects (args := #[]) (mvT hZ (ow33 hw))) (mvT hZ (ow33 hw)) (mvT hZ (ow32 hw)) (by decide) (backOf (W := 0) (rm2 l Z a0 hw [] c7 c1 c7 c8 h38 n0 O38 S_c1 S_c7 S_c8) hZ (ow34 hw) (ow4 hw) (by decide) (by decide)) q62a q62c (g := (mkF m 154 #[.val (.int z1), .val (.int (7 : Int32)), .val (.ref b1), .val (.ref b26)] [(.ref c7)])) rfl (by rw [hml]; rfl) (Steps.refl _) (argsL := []) (rest := []) (lenOf pd_0 rfl) rfl (by show 2 * 0 + _ ≤ _; exact Nat.le_of_eq rfl) (hb hby at_154) (fun _ _ => ⟨rfl, e38, (own_le rfl), (own_le rfl)⟩)
    dsimp only [Pt.U, Pt.locs, Pt.cells, Pt.slots] at X62 l62 y62 z62 st62 hQ62
    subst y62 z62
    obtain ⟨hv62, N62q, E62⟩ := hQ62
    rw [own_is_yes (by simp)] at hv62
    subst hv62
    have N62 := own_fr l62 N38 N62q
    refine own_tr st62 ?_
    show own_Ends _ _ _ _ (T62.setTop (mkF m 157 #[.val (.int z1), .val (.int 7), .val (.ref b1), .val (.ref b26)] [(.int 1)]))
    refine own_to (fun _ kont => XS.aloadN X62.here hx rfl (hb hby at_157) rfl rfl kont) ?_
    show own_Ends _ _ _ _ (T62.setTop (mkF m 158 #[.val (.int z1), .val (.int 7), .val (.ref b1), .val (.ref b26)] [(.ref b26), (.int 1)]))
    refine own_to (fun _ kont => XS.iloadN X62.here hx rfl (hb hby at_158) rfl kont) ?_
    show own_Ends _ _ _ _ (T62.setTop (mkF m 159 #[.val (.int z1), .val (.int 7), .val (.ref b1), .val (.ref b26)] [(.int 7), (.ref b26), (.int 1)]))
    obtain ⟨cl63, Ar63, q63, S63, M63, H63, G63⟩ := id Vs38
    have hin63 : ¬ ((7 : Int32) < 0 ∨ cl63.slots.size ≤ ((7 : Int32)).toNatClampNeg) := inb_of S63 ⟨by decide, by decide⟩
    have hat63 : cl63.slots[((7 : Int32)).toNatClampNeg]? = some (.int (1 : Int32)) := Has.at H63 hin63 rfl
    refine own_to (fun _ kont => X62.baloadBooleans hx (j := (7 : Int32)) (v := (.int (1 : Int32))) (by rw [E62]; exact Ar63.1) (State.isArrayOf_alike hZ.alike Ar63.2.1) Ar63.2.2 hin63 hat63 (g := (mkF m 159 #[.val (.int z1), .val (.int (7 : Int32)), .val (.ref b1), .val (.ref b26)] [(.int (7 : Int32)), (.ref b26), (.int (1 : Int32))])) rfl rfl (hb hby at_159) _ kont) ?_
    show own_Ends _ _ _ _ (T62.setTop (mkF m 160 #[.val (.int z1), .val (.int 7), .val (.ref b1), .val (.ref b26)] [(.int 1), (.int 1)]))
    refine own_to (fun _ kont => XS.icmpNo X62.here hx rfl (hb hby at_160) rfl (teq (by decide)).2 kont) ?_
    show own_Ends _ _ _ _ (T62.setTop (mkF m 163 #[.val (.int z1), .val (.int 7), .val (.ref b1), .val (.ref b26)] []))
    refine own_to (fun _ kont => XS.iconst X62.here hx rfl (hb hby at_163) kont) ?_
    show own_Ends _ _ _ _ (T62.setTop (mkF m 164 #[.val (.int z1), .val (.int 7), .val (.ref b1), .val (.ref b26)] [(.int 1)]))
    refine own_to (fun _ kont => XS.goto X62.here hx rfl (pc0 := 164) (pc' := 168) rfl (hb hby at_164) (by decide) (by decide) kont) ?_
    show own_Ends _ _ _ _ (T62.setTop (mkF m 168 #[.val (.int z1), .val (.int 7), .val (.ref b1), .val (.ref b26)] [(.int 1)]))
    refine own_leave X62 (v := some (.int (1 : Int32))) (fun h => by rw [Bd.returns] at h; cases h) ?_ (by decide) (by decide) (fun fs hr => retN X62 hx (t := .boolean) Bd.returns (by simp) (hb hby at_168) hr)
    show Q_rm0 Z z1 c0 c1 c2 c3 c4 c5 c6 c7 c8 c9 c10 c11 h0 n0 _ T62.heap _
    rw [E62]
    exact ⟨rfl, N62⟩
  · skip
    show own_Ends _ _ _ _ (T38.setTop (mkF m 151 #[.val (.int z1), .val (.int 8), .val (.ref b1), .val (.ref b26)] []))
    refine own_to (fun _ kont => XS.aloadN X38.here hx rfl (hb hby at_151) rfl rfl kont) ?_
    show own_Ends _ _ _ _ (T38.setTop (mkF m 152 #[.val (.int z1), .val (.int 8), .val (.ref b1), .val (.ref b26)] [(.ref b1)]))
    refine own_to (fun _ kont => XS.iloadN X38.here hx rfl (hb hby at_152) rfl kont) ?_
    show own_Ends _ _ _ _ (T38.setTop (mkF m 153 #[.val (.int z1), .val (.int 8), .val (.ref b1), .val (.ref b26)] [(.int 8), (.ref b1)]))
    obtain ⟨cl64, Ar64, q64, S64, M64, H64, G64⟩ := id (((((((((((((Vs25.ext E26).other W27 ne_b1_b26).other W28 ne_b1_b26).other W29 ne_b1_b26).other W30 ne_b1_b26).other W31 ne_b1_b26).other W32 ne_b1_b26).other W33 ne_b1_b26).other W34 ne_b1_b26).other W35 ne_b1_b26).other W36 ne_b1_b26).other W37 ne_b1_b26).other W38 ne_b1_b26)
    have hin64 : ¬ ((8 : Int32) < 0 ∨ cl64.slots.size ≤ ((8 : Int32)).toNatClampNeg) := inb_of S64 ⟨by decide, by decide⟩
    have hat64 : cl64.slots[((8 : Int32)).toNatClampNeg]? = some (.ref c8) := Has.at H64 hin64 rfl
    refine own_to (fun _ kont => X38.aaload hx (j := (8 : Int32)) (v := (.ref c8)) (by rw [e38]; exact Ar64.1) (State.isArrayOf_alike hZ.alike Ar64.2.1) rfl Ar64.2.2 hin64 hat64 (g := (mkF m 153 #[.val (.int z1), .val (.int (8 : Int32)), .val (.ref b1), .val (.ref b26)] [(.int (8 : Int32)), (.ref b1)])) rfl rfl (hb hby at_153) _ kont) ?_
    show own_Ends _ _ _ _ (T38.setTop (mkF m 154 #[.val (.int z1), .val (.int 8), .val (.ref b1), .val (.ref b26)] [(.ref c8)]))
    obtain ⟨cq65, kq65, q65a, q65b, q65c⟩ := isOf hZ e38 (E_c8.ext O38.2)
    obtain ⟨_, _, ⟨T65, L65, k65, n65⟩, -, X65, ⟨Lc65, hQ65, l65, y65, z65⟩, st65⟩ := X38.virtualBack hx (y := oM0) (z := oM0) hown (mvT hZ (ow30 hw)) (mvT hZ (ow31 hw)) (notFace_of_selects (args := #[]) (mvT hZ (ow33 hw))) (mvT hZ (ow33 hw)) (mvT hZ (ow32 hw)) (by decide) (backOf (W := 0) (rm2 l Z a0 hw [] c8 c1 c7 c8 h38 n0 O38 S_c1 S_c7 S_c8) hZ (ow34 hw) (ow4 hw) (by decide) (by decide)) q65a q65c (g := (mkF m 154 #[.val (.int z1), .val (.int (8 : Int32)), .val (.ref b1), .val (.ref b26)] [(.ref c8)])) rfl (by rw [hml]; rfl) (Steps.refl _) (argsL := []) (rest := []) (lenOf pd_0 rfl) rfl (by show 2 * 0 + _ ≤ _; exact Nat.le_of_eq rfl) (hb hby at_154) (fun _ _ => ⟨rfl, e38, (own_le rfl), (own_le rfl)⟩)
    dsimp only [Pt.U, Pt.locs, Pt.cells, Pt.slots] at X65 l65 y65 z65 st65 hQ65
    subst y65 z65
    obtain ⟨hv65, N65q, E65⟩ := hQ65
    rw [own_is_yes (by simp)] at hv65
    subst hv65
    have N65 := own_fr l65 N38 N65q
    refine own_tr st65 ?_
    show own_Ends _ _ _ _ (T65.setTop (mkF m 157 #[.val (.int z1), .val (.int 8), .val (.ref b1), .val (.ref b26)] [(.int 1)]))
    refine own_to (fun _ kont => XS.aloadN X65.here hx rfl (hb hby at_157) rfl rfl kont) ?_
    show own_Ends _ _ _ _ (T65.setTop (mkF m 158 #[.val (.int z1), .val (.int 8), .val (.ref b1), .val (.ref b26)] [(.ref b26), (.int 1)]))
    refine own_to (fun _ kont => XS.iloadN X65.here hx rfl (hb hby at_158) rfl kont) ?_
    show own_Ends _ _ _ _ (T65.setTop (mkF m 159 #[.val (.int z1), .val (.int 8), .val (.ref b1), .val (.ref b26)] [(.int 8), (.ref b26), (.int 1)]))
    obtain ⟨cl66, Ar66, q66, S66, M66, H66, G66⟩ := id Vs38
    have hin66 : ¬ ((8 : Int32) < 0 ∨ cl66.slots.size ≤ ((8 : Int32)).toNatClampNeg) := inb_of S66 ⟨by decide, by decide⟩
    have hat66 : cl66.slots[((8 : Int32)).toNatClampNeg]? = some (.int (1 : Int32)) := Has.at H66 hin66 rfl
    refine own_to (fun _ kont => X65.baloadBooleans hx (j := (8 : Int32)) (v := (.int (1 : Int32))) (by rw [E65]; exact Ar66.1) (State.isArrayOf_alike hZ.alike Ar66.2.1) Ar66.2.2 hin66 hat66 (g := (mkF m 159 #[.val (.int z1), .val (.int (8 : Int32)), .val (.ref b1), .val (.ref b26)] [(.int (8 : Int32)), (.ref b26), (.int (1 : Int32))])) rfl rfl (hb hby at_159) _ kont) ?_
    show own_Ends _ _ _ _ (T65.setTop (mkF m 160 #[.val (.int z1), .val (.int 8), .val (.ref b1), .val (.ref b26)] [(.int 1), (.int 1)]))
    refine own_to (fun _ kont => XS.icmpNo X65.here hx rfl (hb hby at_160) rfl (teq (by decide)).2 kont) ?_
    show own_Ends _ _ _ _ (T65.setTop (mkF m 163 #[.val (.int z1), .val (.int 8), .val (.ref b1), .val (.ref b26)] []))
    refine own_to (fun _ kont => XS.iconst X65.here hx rfl (hb hby at_163) kont) ?_
    show own_Ends _ _ _ _ (T65.setTop (mkF m 164 #[.val (.int z1), .val (.int 8), .val (.ref b1), .val (.ref b26)] [(.int 1)]))
    refine own_to (fun _ kont => XS.goto X65.here hx rfl (pc0 := 164) (pc' := 168) rfl (hb hby at_164) (by decide) (by decide) kont) ?_
    show own_Ends _ _ _ _ (T65.setTop (mkF m 168 #[.val (.int z1), .val (.int 8), .val (.ref b1), .val (.ref b26)] [(.int 1)]))
    refine own_leave X65 (v := some (.int (1 : Int32))) (fun h => by rw [Bd.returns] at h; cases h) ?_ (by decide) (by decide) (fun fs hr => retN X65 hx (t := .boolean) Bd.returns (by simp) (hb hby at_168) hr)
    show Q_rm0 Z z1 c0 c1 c2 c3 c4 c5 c6 c7 c8 c9 c10 c11 h0 n0 _ T65.heap _
    rw [E65]
    exact ⟨rfl, N65⟩
  · skip
    show own_Ends _ _ _ _ (T38.setTop (mkF m 151 #[.val (.int z1), .val (.int 9), .val (.ref b1), .val (.ref b26)] []))
    refine own_to (fun _ kont => XS.aloadN X38.here hx rfl (hb hby at_151) rfl rfl kont) ?_
    show own_Ends _ _ _ _ (T38.setTop (mkF m 152 #[.val (.int z1), .val (.int 9), .val (.ref b1), .val (.ref b26)] [(.ref b1)]))
    refine own_to (fun _ kont => XS.iloadN X38.here hx rfl (hb hby at_152) rfl kont) ?_
    show own_Ends _ _ _ _ (T38.setTop (mkF m 153 #[.val (.int z1), .val (.int 9), .val (.ref b1), .val (.ref b26)] [(.int 9), (.ref b1)]))
    obtain ⟨cl67, Ar67, q67, S67, M67, H67, G67⟩ := id (((((((((((((Vs25.ext E26).other W27 ne_b1_b26).other W28 ne_b1_b26).other W29 ne_b1_b26).other W30 ne_b1_b26).other W31 ne_b1_b26).other W32 ne_b1_b26).other W33 ne_b1_b26).other W34 ne_b1_b26).other W35 ne_b1_b26).other W36 ne_b1_b26).other W37 ne_b1_b26).other W38 ne_b1_b26)
    have hin67 : ¬ ((9 : Int32) < 0 ∨ cl67.slots.size ≤ ((9 : Int32)).toNatClampNeg) := inb_of S67 ⟨by decide, by decide⟩
    have hat67 : cl67.slots[((9 : Int32)).toNatClampNeg]? = some (.ref c9) := Has.at H67 hin67 rfl
    refine own_to (fun _ kont => X38.aaload hx (j := (9 : Int32)) (v := (.ref c9)) (by rw [e38]; exact Ar67.1) (State.isArrayOf_alike hZ.alike Ar67.2.1) rfl Ar67.2.2 hin67 hat67 (g := (mkF m 153 #[.val (.int z1), .val (.int (9 : Int32)), .val (.ref b1), .val (.ref b26)] [(.int (9 : Int32)), (.ref b1)])) rfl rfl (hb hby at_153) _ kont) ?_
    show own_Ends _ _ _ _ (T38.setTop (mkF m 154 #[.val (.int z1), .val (.int 9), .val (.ref b1), .val (.ref b26)] [(.ref c9)]))
    obtain ⟨cq68, kq68, q68a, q68b, q68c⟩ := isOf hZ e38 (E_c9.ext O38.2)
    obtain ⟨_, _, ⟨T68, L68, k68, n68⟩, -, X68, ⟨Lc68, hQ68, l68, y68, z68⟩, st68⟩ := X38.virtualBack hx (y := oM0) (z := oM0) hown (mvT hZ (ow30 hw)) (mvT hZ (ow31 hw)) (notFace_of_selects (args := #[]) (mvT hZ (ow33 hw))) (mvT hZ (ow33 hw)) (mvT hZ (ow32 hw)) (by decide) (backOf (W := 0) (rm2 l Z a0 hw [] c9 c1 c7 c8 h38 n0 O38 S_c1 S_c7 S_c8) hZ (ow34 hw) (ow4 hw) (by decide) (by decide)) q68a q68c (g := (mkF m 154 #[.val (.int z1), .val (.int (9 : Int32)), .val (.ref b1), .val (.ref b26)] [(.ref c9)])) rfl (by rw [hml]; rfl) (Steps.refl _) (argsL := []) (rest := []) (lenOf pd_0 rfl) rfl (by show 2 * 0 + _ ≤ _; exact Nat.le_of_eq rfl) (hb hby at_154) (fun _ _ => ⟨rfl, e38, (own_le rfl), (own_le rfl)⟩)
    dsimp only [Pt.U, Pt.locs, Pt.cells, Pt.slots] at X68 l68 y68 z68 st68 hQ68
    subst y68 z68
    obtain ⟨hv68, N68q, E68⟩ := hQ68
    rw [own_is_no (Fld.ne F_c9 F_c1 (own_intne (by decide))) (Fld.ne F_c9 F_c7 (own_intne (by decide))) (Fld.ne F_c9 F_c8 (own_intne (by decide)))] at hv68
    subst hv68
    have N68 := own_fr l68 N38 N68q
    refine own_tr st68 ?_
    show own_Ends _ _ _ _ (T68.setTop (mkF m 157 #[.val (.int z1), .val (.int 9), .val (.ref b1), .val (.ref b26)] [(.int 0)]))
    refine own_to (fun _ kont => XS.aloadN X68.here hx rfl (hb hby at_157) rfl rfl kont) ?_
    show own_Ends _ _ _ _ (T68.setTop (mkF m 158 #[.val (.int z1), .val (.int 9), .val (.ref b1), .val (.ref b26)] [(.ref b26), (.int 0)]))
    refine own_to (fun _ kont => XS.iloadN X68.here hx rfl (hb hby at_158) rfl kont) ?_
    show own_Ends _ _ _ _ (T68.setTop (mkF m 159 #[.val (.int z1), .val (.int 9), .val (.ref b1), .val (.ref b26)] [(.int 9), (.ref b26), (.int 0)]))
    obtain ⟨cl69, Ar69, q69, S69, M69, H69, G69⟩ := id Vs38
    have hin69 : ¬ ((9 : Int32) < 0 ∨ cl69.slots.size ≤ ((9 : Int32)).toNatClampNeg) := inb_of S69 ⟨by decide, by decide⟩
    have hat69 : cl69.slots[((9 : Int32)).toNatClampNeg]? = some (.int (0 : Int32)) := Has.at H69 hin69 rfl
    refine own_to (fun _ kont => X68.baloadBooleans hx (j := (9 : Int32)) (v := (.int (0 : Int32))) (by rw [E68]; exact Ar69.1) (State.isArrayOf_alike hZ.alike Ar69.2.1) Ar69.2.2 hin69 hat69 (g := (mkF m 159 #[.val (.int z1), .val (.int (9 : Int32)), .val (.ref b1), .val (.ref b26)] [(.int (9 : Int32)), (.ref b26), (.int (0 : Int32))])) rfl rfl (hb hby at_159) _ kont) ?_
    show own_Ends _ _ _ _ (T68.setTop (mkF m 160 #[.val (.int z1), .val (.int 9), .val (.ref b1), .val (.ref b26)] [(.int 0), (.int 0)]))
    refine own_to (fun _ kont => XS.icmpNo X68.here hx rfl (hb hby at_160) rfl (teq (by decide)).2 kont) ?_
    show own_Ends _ _ _ _ (T68.setTop (mkF m 163 #[.val (.int z1), .val (.int 9), .val (.ref b1), .val (.ref b26)] []))
    refine own_to (fun _ kont => XS.iconst X68.here hx rfl (hb hby at_163) kont) ?_
    show own_Ends _ _ _ _ (T68.setTop (mkF m 164 #[.val (.int z1), .val (.int 9), .val (.ref b1), .val (.ref b26)] [(.int 1)]))
    refine own_to (fun _ kont => XS.goto X68.here hx rfl (pc0 := 164) (pc' := 168) rfl (hb hby at_164) (by decide) (by decide) kont) ?_
    show own_Ends _ _ _ _ (T68.setTop (mkF m 168 #[.val (.int z1), .val (.int 9), .val (.ref b1), .val (.ref b26)] [(.int 1)]))
    refine own_leave X68 (v := some (.int (1 : Int32))) (fun h => by rw [Bd.returns] at h; cases h) ?_ (by decide) (by decide) (fun fs hr => retN X68 hx (t := .boolean) Bd.returns (by simp) (hb hby at_168) hr)
    show Q_rm0 Z z1 c0 c1 c2 c3 c4 c5 c6 c7 c8 c9 c10 c11 h0 n0 _ T68.heap _
    rw [E68]
    exact ⟨rfl, N68⟩
  · skip
    show own_Ends _ _ _ _ (T38.setTop (mkF m 151 #[.val (.int z1), .val (.int 10), .val (.ref b1), .val (.ref b26)] []))
    refine own_to (fun _ kont => XS.aloadN X38.here hx rfl (hb hby at_151) rfl rfl kont) ?_
    show own_Ends _ _ _ _ (T38.setTop (mkF m 152 #[.val (.int z1), .val (.int 10), .val (.ref b1), .val (.ref b26)] [(.ref b1)]))
    refine own_to (fun _ kont => XS.iloadN X38.here hx rfl (hb hby at_152) rfl kont) ?_
    show own_Ends _ _ _ _ (T38.setTop (mkF m 153 #[.val (.int z1), .val (.int 10), .val (.ref b1), .val (.ref b26)] [(.int 10), (.ref b1)]))
    obtain ⟨cl70, Ar70, q70, S70, M70, H70, G70⟩ := id (((((((((((((Vs25.ext E26).other W27 ne_b1_b26).other W28 ne_b1_b26).other W29 ne_b1_b26).other W30 ne_b1_b26).other W31 ne_b1_b26).other W32 ne_b1_b26).other W33 ne_b1_b26).other W34 ne_b1_b26).other W35 ne_b1_b26).other W36 ne_b1_b26).other W37 ne_b1_b26).other W38 ne_b1_b26)
    have hin70 : ¬ ((10 : Int32) < 0 ∨ cl70.slots.size ≤ ((10 : Int32)).toNatClampNeg) := inb_of S70 ⟨by decide, by decide⟩
    have hat70 : cl70.slots[((10 : Int32)).toNatClampNeg]? = some (.ref c10) := Has.at H70 hin70 rfl
    refine own_to (fun _ kont => X38.aaload hx (j := (10 : Int32)) (v := (.ref c10)) (by rw [e38]; exact Ar70.1) (State.isArrayOf_alike hZ.alike Ar70.2.1) rfl Ar70.2.2 hin70 hat70 (g := (mkF m 153 #[.val (.int z1), .val (.int (10 : Int32)), .val (.ref b1), .val (.ref b26)] [(.int (10 : Int32)), (.ref b1)])) rfl rfl (hb hby at_153) _ kont) ?_
    show own_Ends _ _ _ _ (T38.setTop (mkF m 154 #[.val (.int z1), .val (.int 10), .val (.ref b1), .val (.ref b26)] [(.ref c10)]))
    obtain ⟨cq71, kq71, q71a, q71b, q71c⟩ := isOf hZ e38 (E_c10.ext O38.2)
    obtain ⟨_, _, ⟨T71, L71, k71, n71⟩, -, X71, ⟨Lc71, hQ71, l71, y71, z71⟩, st71⟩ := X38.virtualBack hx (y := oM0) (z := oM0) hown (mvT hZ (ow30 hw)) (mvT hZ (ow31 hw)) (notFace_of_selects (args := #[]) (mvT hZ (ow33 hw))) (mvT hZ (ow33 hw)) (mvT hZ (ow32 hw)) (by decide) (backOf (W := 0) (rm2 l Z a0 hw [] c10 c1 c7 c8 h38 n0 O38 S_c1 S_c7 S_c8) hZ (ow34 hw) (ow4 hw) (by decide) (by decide)) q71a q71c (g := (mkF m 154 #[.val (.int z1), .val (.int (10 : Int32)), .val (.ref b1), .val (.ref b26)] [(.ref c10)])) rfl (by rw [hml]; rfl) (Steps.refl _) (argsL := []) (rest := []) (lenOf pd_0 rfl) rfl (by show 2 * 0 + _ ≤ _; exact Nat.le_of_eq rfl) (hb hby at_154) (fun _ _ => ⟨rfl, e38, (own_le rfl), (own_le rfl)⟩)
    dsimp only [Pt.U, Pt.locs, Pt.cells, Pt.slots] at X71 l71 y71 z71 st71 hQ71
    subst y71 z71
    obtain ⟨hv71, N71q, E71⟩ := hQ71
    rw [own_is_no (Fld.ne F_c10 F_c1 (own_intne (by decide))) (Fld.ne F_c10 F_c7 (own_intne (by decide))) (Fld.ne F_c10 F_c8 (own_intne (by decide)))] at hv71
    subst hv71
    have N71 := own_fr l71 N38 N71q
    refine own_tr st71 ?_
    show own_Ends _ _ _ _ (T71.setTop (mkF m 157 #[.val (.int z1), .val (.int 10), .val (.ref b1), .val (.ref b26)] [(.int 0)]))
    refine own_to (fun _ kont => XS.aloadN X71.here hx rfl (hb hby at_157) rfl rfl kont) ?_
    show own_Ends _ _ _ _ (T71.setTop (mkF m 158 #[.val (.int z1), .val (.int 10), .val (.ref b1), .val (.ref b26)] [(.ref b26), (.int 0)]))
    refine own_to (fun _ kont => XS.iloadN X71.here hx rfl (hb hby at_158) rfl kont) ?_
    show own_Ends _ _ _ _ (T71.setTop (mkF m 159 #[.val (.int z1), .val (.int 10), .val (.ref b1), .val (.ref b26)] [(.int 10), (.ref b26), (.int 0)]))
    obtain ⟨cl72, Ar72, q72, S72, M72, H72, G72⟩ := id Vs38
    have hin72 : ¬ ((10 : Int32) < 0 ∨ cl72.slots.size ≤ ((10 : Int32)).toNatClampNeg) := inb_of S72 ⟨by decide, by decide⟩
    have hat72 : cl72.slots[((10 : Int32)).toNatClampNeg]? = some (.int (0 : Int32)) := Has.at H72 hin72 rfl
    refine own_to (fun _ kont => X71.baloadBooleans hx (j := (10 : Int32)) (v := (.int (0 : Int32))) (by rw [E71]; exact Ar72.1) (State.isArrayOf_alike hZ.alike Ar72.2.1) Ar72.2.2 hin72 hat72 (g := (mkF m 159 #[.val (.int z1), .val (.int (10 : Int32)), .val (.ref b1), .val (.ref b26)] [(.int (10 : Int32)), (.ref b26), (.int (0 : Int32))])) rfl rfl (hb hby at_159) _ kont) ?_
    show own_Ends _ _ _ _ (T71.setTop (mkF m 160 #[.val (.int z1), .val (.int 10), .val (.ref b1), .val (.ref b26)] [(.int 0), (.int 0)]))
    refine own_to (fun _ kont => XS.icmpNo X71.here hx rfl (hb hby at_160) rfl (teq (by decide)).2 kont) ?_
    show own_Ends _ _ _ _ (T71.setTop (mkF m 163 #[.val (.int z1), .val (.int 10), .val (.ref b1), .val (.ref b26)] []))
    refine own_to (fun _ kont => XS.iconst X71.here hx rfl (hb hby at_163) kont) ?_
    show own_Ends _ _ _ _ (T71.setTop (mkF m 164 #[.val (.int z1), .val (.int 10), .val (.ref b1), .val (.ref b26)] [(.int 1)]))
    refine own_to (fun _ kont => XS.goto X71.here hx rfl (pc0 := 164) (pc' := 168) rfl (hb hby at_164) (by decide) (by decide) kont) ?_
    show own_Ends _ _ _ _ (T71.setTop (mkF m 168 #[.val (.int z1), .val (.int 10), .val (.ref b1), .val (.ref b26)] [(.int 1)]))
    refine own_leave X71 (v := some (.int (1 : Int32))) (fun h => by rw [Bd.returns] at h; cases h) ?_ (by decide) (by decide) (fun fs hr => retN X71 hx (t := .boolean) Bd.returns (by simp) (hb hby at_168) hr)
    show Q_rm0 Z z1 c0 c1 c2 c3 c4 c5 c6 c7 c8 c9 c10 c11 h0 n0 _ T71.heap _
    rw [E71]
    exact ⟨rfl, N71⟩
  · skip
    show own_Ends _ _ _ _ (T38.setTop (mkF m 151 #[.val (.int z1), .val (.int 11), .val (.ref b1), .val (.ref b26)] []))
    refine own_to (fun _ kont => XS.aloadN X38.here hx rfl (hb hby at_151) rfl rfl kont) ?_
    show own_Ends _ _ _ _ (T38.setTop (mkF m 152 #[.val (.int z1), .val (.int 11), .val (.ref b1), .val (.ref b26)] [(.ref b1)]))
    refine own_to (fun _ kont => XS.iloadN X38.here hx rfl (hb hby at_152) rfl kont) ?_
    show own_Ends _ _ _ _ (T38.setTop (mkF m 153 #[.val (.int z1), .val (.int 11), .val (.ref b1), .val (.ref b26)] [(.int 11), (.ref b1)]))
    obtain ⟨cl73, Ar73, q73, S73, M73, H73, G73⟩ := id (((((((((((((Vs25.ext E26).other W27 ne_b1_b26).other W28 ne_b1_b26).other W29 ne_b1_b26).other W30 ne_b1_b26).other W31 ne_b1_b26).other W32 ne_b1_b26).other W33 ne_b1_b26).other W34 ne_b1_b26).other W35 ne_b1_b26).other W36 ne_b1_b26).other W37 ne_b1_b26).other W38 ne_b1_b26)
    have hin73 : ¬ ((11 : Int32) < 0 ∨ cl73.slots.size ≤ ((11 : Int32)).toNatClampNeg) := inb_of S73 ⟨by decide, by decide⟩
    have hat73 : cl73.slots[((11 : Int32)).toNatClampNeg]? = some (.ref c11) := Has.at H73 hin73 rfl
    refine own_to (fun _ kont => X38.aaload hx (j := (11 : Int32)) (v := (.ref c11)) (by rw [e38]; exact Ar73.1) (State.isArrayOf_alike hZ.alike Ar73.2.1) rfl Ar73.2.2 hin73 hat73 (g := (mkF m 153 #[.val (.int z1), .val (.int (11 : Int32)), .val (.ref b1), .val (.ref b26)] [(.int (11 : Int32)), (.ref b1)])) rfl rfl (hb hby at_153) _ kont) ?_
    show own_Ends _ _ _ _ (T38.setTop (mkF m 154 #[.val (.int z1), .val (.int 11), .val (.ref b1), .val (.ref b26)] [(.ref c11)]))
    obtain ⟨cq74, kq74, q74a, q74b, q74c⟩ := isOf hZ e38 (E_c11.ext O38.2)
    obtain ⟨_, _, ⟨T74, L74, k74, n74⟩, -, X74, ⟨Lc74, hQ74, l74, y74, z74⟩, st74⟩ := X38.virtualBack hx (y := oM0) (z := oM0) hown (mvT hZ (ow30 hw)) (mvT hZ (ow31 hw)) (notFace_of_selects (args := #[]) (mvT hZ (ow33 hw))) (mvT hZ (ow33 hw)) (mvT hZ (ow32 hw)) (by decide) (backOf (W := 0) (rm2 l Z a0 hw [] c11 c1 c7 c8 h38 n0 O38 S_c1 S_c7 S_c8) hZ (ow34 hw) (ow4 hw) (by decide) (by decide)) q74a q74c (g := (mkF m 154 #[.val (.int z1), .val (.int (11 : Int32)), .val (.ref b1), .val (.ref b26)] [(.ref c11)])) rfl (by rw [hml]; rfl) (Steps.refl _) (argsL := []) (rest := []) (lenOf pd_0 rfl) rfl (by show 2 * 0 + _ ≤ _; exact Nat.le_of_eq rfl) (hb hby at_154) (fun _ _ => ⟨rfl, e38, (own_le rfl), (own_le rfl)⟩)
    dsimp only [Pt.U, Pt.locs, Pt.cells, Pt.slots] at X74 l74 y74 z74 st74 hQ74
    subst y74 z74
    obtain ⟨hv74, N74q, E74⟩ := hQ74
    rw [own_is_no (Fld.ne F_c11 F_c1 (own_intne (by decide))) (Fld.ne F_c11 F_c7 (own_intne (by decide))) (Fld.ne F_c11 F_c8 (own_intne (by decide)))] at hv74
    subst hv74
    have N74 := own_fr l74 N38 N74q
    refine own_tr st74 ?_
    show own_Ends _ _ _ _ (T74.setTop (mkF m 157 #[.val (.int z1), .val (.int 11), .val (.ref b1), .val (.ref b26)] [(.int 0)]))
    refine own_to (fun _ kont => XS.aloadN X74.here hx rfl (hb hby at_157) rfl rfl kont) ?_
    show own_Ends _ _ _ _ (T74.setTop (mkF m 158 #[.val (.int z1), .val (.int 11), .val (.ref b1), .val (.ref b26)] [(.ref b26), (.int 0)]))
    refine own_to (fun _ kont => XS.iloadN X74.here hx rfl (hb hby at_158) rfl kont) ?_
    show own_Ends _ _ _ _ (T74.setTop (mkF m 159 #[.val (.int z1), .val (.int 11), .val (.ref b1), .val (.ref b26)] [(.int 11), (.ref b26), (.int 0)]))
    obtain ⟨cl75, Ar75, q75, S75, M75, H75, G75⟩ := id Vs38
    have hin75 : ¬ ((11 : Int32) < 0 ∨ cl75.slots.size ≤ ((11 : Int32)).toNatClampNeg) := inb_of S75 ⟨by decide, by decide⟩
    have hat75 : cl75.slots[((11 : Int32)).toNatClampNeg]? = some (.int (0 : Int32)) := Has.at H75 hin75 rfl
    refine own_to (fun _ kont => X74.baloadBooleans hx (j := (11 : Int32)) (v := (.int (0 : Int32))) (by rw [E74]; exact Ar75.1) (State.isArrayOf_alike hZ.alike Ar75.2.1) Ar75.2.2 hin75 hat75 (g := (mkF m 159 #[.val (.int z1), .val (.int (11 : Int32)), .val (.ref b1), .val (.ref b26)] [(.int (11 : Int32)), (.ref b26), (.int (0 : Int32))])) rfl rfl (hb hby at_159) _ kont) ?_
    show own_Ends _ _ _ _ (T74.setTop (mkF m 160 #[.val (.int z1), .val (.int 11), .val (.ref b1), .val (.ref b26)] [(.int 0), (.int 0)]))
    refine own_to (fun _ kont => XS.icmpNo X74.here hx rfl (hb hby at_160) rfl (teq (by decide)).2 kont) ?_
    show own_Ends _ _ _ _ (T74.setTop (mkF m 163 #[.val (.int z1), .val (.int 11), .val (.ref b1), .val (.ref b26)] []))
    refine own_to (fun _ kont => XS.iconst X74.here hx rfl (hb hby at_163) kont) ?_
    show own_Ends _ _ _ _ (T74.setTop (mkF m 164 #[.val (.int z1), .val (.int 11), .val (.ref b1), .val (.ref b26)] [(.int 1)]))
    refine own_to (fun _ kont => XS.goto X74.here hx rfl (pc0 := 164) (pc' := 168) rfl (hb hby at_164) (by decide) (by decide) kont) ?_
    show own_Ends _ _ _ _ (T74.setTop (mkF m 168 #[.val (.int z1), .val (.int 11), .val (.ref b1), .val (.ref b26)] [(.int 1)]))
    refine own_leave X74 (v := some (.int (1 : Int32))) (fun h => by rw [Bd.returns] at h; cases h) ?_ (by decide) (by decide) (fun fs hr => retN X74 hx (t := .boolean) Bd.returns (by simp) (hb hby at_168) hr)
    show Q_rm0 Z z1 c0 c1 c2 c3 c4 c5 c6 c7 c8 c9 c10 c11 h0 n0 _ T74.heap _
    rw [E74]
    exact ⟨rfl, N74⟩
set_option maxRecDepth 65536 in
set_option maxHeartbeats 40000000 in
theorem comes_1 {Post : Tables → Env → Array Value → State → Outcome → State → Prop} (hpost : ∀ tb e args s v u, (limb_1_1.after args s (.returned v) u = true ∧ limb_1_2.after args s (.returned v) u = true ∧ True) → FrameEnd s (.returned v) u (Jvm.fieldLocs frame_1_writes args s ++ Jvm.arrayLocs frame_1_arrays args s ++ Jvm.staticLocs frame_1_statics s) 16 128 → Post tb e args s (.returned v) u) :
    ArmFor flags0 classFile x code maxLocals ret World_1 tables_1 room_1 Calls_1 rest_1 Pre_1 Post := by
  intro l hfl _ _ p e ha hc hk s m args below hf hA hF happ hP
  obtain ⟨hcalls, hrest, hpre⟩ := hP
  obtain ⟨-, -, -, hnamed, -, -, -, hat⟩ := (Spec.applies_iff hf).mp happ
  obtain ⟨hg, hn⟩ := and_e (Cond.before_iff.mp (show (Jvm.Cond.and given_1 narrow_1).before args s = true from hpre))
  obtain ⟨gc0, hg0⟩ := and_e hg
  have gc1 := hg0
  obtain ⟨nc0, hn0⟩ := and_e hn
  obtain ⟨nc1, hn1⟩ := and_e hn0
  obtain ⟨nc2, hn2⟩ := and_e hn1
  obtain ⟨nc3, hn3⟩ := and_e hn2
  obtain ⟨nc4, hn4⟩ := and_e hn3
  obtain ⟨nc5, hn5⟩ := and_e hn4
  obtain ⟨nc6, hn6⟩ := and_e hn5
  obtain ⟨nc7, hn7⟩ := and_e hn6
  obtain ⟨nc8, hn8⟩ := and_e hn7
  obtain ⟨nc9, hn9⟩ := and_e hn8
  obtain ⟨nc10, hn10⟩ := and_e hn9
  obtain ⟨nc11, hn11⟩ := and_e hn10
  obtain ⟨nc12, hn12⟩ := and_e hn11
  obtain ⟨nc13, hn13⟩ := and_e hn12
  obtain ⟨nc14, hn14⟩ := and_e hn13
  obtain ⟨nc15, hn15⟩ := and_e hn14
  obtain ⟨nc16, hn16⟩ := and_e hn15
  obtain ⟨nc17, hn17⟩ := and_e hn16
  obtain ⟨nc18, hn18⟩ := and_e hn17
  obtain ⟨nc19, hn19⟩ := and_e hn18
  obtain ⟨nc20, hn20⟩ := and_e hn19
  obtain ⟨nc21, hn21⟩ := and_e hn20
  obtain ⟨nc22, hn22⟩ := and_e hn21
  have nc23 := hn22
  obtain ⟨w0, rfl⟩ : ∃ w0 : Value, args = #[w0] := by
    have hs : args.size = 1 := by simpa [Cond.value, given_1] using gc0
    obtain ⟨L⟩ := args
    match L, hs with
    | [w0], _ => exact ⟨w0, rfl⟩
  have hw := fun d (hd : d ∈ tables_1) => atoms_spec (ws := Jvm.Cond.code x code maxLocals ret :: tables_1) hat d (List.mem_cons_of_mem _ hd)
  have hfit : Fit s := fun {y c} hc i hi => by
    obtain ⟨ha, rfl⟩ := Array.getElem?_eq_some_iff.mp hc
    have q := List.all_eq_true.mp ((Array.all_eq_true_iff_forall_mem.mp hF) _ (Array.getElem_mem ha)) i (List.mem_range.mpr hi)
    simpa [Array.getElem?_eq_getElem hi] using q
  obtain ⟨i0, ei0⟩ := is_v gc1
  obtain rfl : w0 = (.int i0) := Option.some.inj ei0
  obtain ⟨c0, ev_c0⟩ := exa_v nc0
  have E_c0 : Exa s s.heap c0 "com/example/latmere/latmere/spatial/GeometryType" := Exa.start ev_c0 nc0
  have S_c0 : Sta s s.heap "com/example/latmere/latmere/spatial/GeometryType" "POINT" "Lcom/example/latmere/latmere/spatial/GeometryType;" (.ref c0) := Sta.start ev_c0 (Or.inr ⟨(ow4 hw), (ow5 hw)⟩)
  obtain ⟨c1, ev_c1⟩ := exa_v nc1
  have E_c1 : Exa s s.heap c1 "com/example/latmere/latmere/spatial/GeometryType" := Exa.start ev_c1 nc1
  have S_c1 : Sta s s.heap "com/example/latmere/latmere/spatial/GeometryType" "LINESTRING" "Lcom/example/latmere/latmere/spatial/GeometryType;" (.ref c1) := Sta.start ev_c1 (Or.inr ⟨(ow4 hw), (ow8 hw)⟩)
  obtain ⟨c2, ev_c2⟩ := exa_v nc2
  have E_c2 : Exa s s.heap c2 "com/example/latmere/latmere/spatial/GeometryType" := Exa.start ev_c2 nc2
  have S_c2 : Sta s s.heap "com/example/latmere/latmere/spatial/GeometryType" "POLYGON" "Lcom/example/latmere/latmere/spatial/GeometryType;" (.ref c2) := Sta.start ev_c2 (Or.inr ⟨(ow4 hw), (ow10 hw)⟩)
  obtain ⟨c3, ev_c3⟩ := exa_v nc3
  have E_c3 : Exa s s.heap c3 "com/example/latmere/latmere/spatial/GeometryType" := Exa.start ev_c3 nc3
  have S_c3 : Sta s s.heap "com/example/latmere/latmere/spatial/GeometryType" "MULTIPOINT" "Lcom/example/latmere/latmere/spatial/GeometryType;" (.ref c3) := Sta.start ev_c3 (Or.inr ⟨(ow4 hw), (ow12 hw)⟩)
  obtain ⟨c4, ev_c4⟩ := exa_v nc4
  have E_c4 : Exa s s.heap c4 "com/example/latmere/latmere/spatial/GeometryType" := Exa.start ev_c4 nc4
  have S_c4 : Sta s s.heap "com/example/latmere/latmere/spatial/GeometryType" "MULTILINESTRING" "Lcom/example/latmere/latmere/spatial/GeometryType;" (.ref c4) := Sta.start ev_c4 (Or.inr ⟨(ow4 hw), (ow14 hw)⟩)
  obtain ⟨c5, ev_c5⟩ := exa_v nc5
  have E_c5 : Exa s s.heap c5 "com/example/latmere/latmere/spatial/GeometryType" := Exa.start ev_c5 nc5
  have S_c5 : Sta s s.heap "com/example/latmere/latmere/spatial/GeometryType" "MULTIPOLYGON" "Lcom/example/latmere/latmere/spatial/GeometryType;" (.ref c5) := Sta.start ev_c5 (Or.inr ⟨(ow4 hw), (ow16 hw)⟩)
  obtain ⟨c6, ev_c6⟩ := exa_v nc6
  have E_c6 : Exa s s.heap c6 "com/example/latmere/latmere/spatial/GeometryType" := Exa.start ev_c6 nc6
  have S_c6 : Sta s s.heap "com/example/latmere/latmere/spatial/GeometryType" "GEOMETRYCOLLECTION" "Lcom/example/latmere/latmere/spatial/GeometryType;" (.ref c6) := Sta.start ev_c6 (Or.inr ⟨(ow4 hw), (ow18 hw)⟩)
  obtain ⟨c7, ev_c7⟩ := exa_v nc7
  have E_c7 : Exa s s.heap c7 "com/example/latmere/latmere/spatial/GeometryType" := Exa.start ev_c7 nc7
  have S_c7 : Sta s s.heap "com/example/latmere/latmere/spatial/GeometryType" "CIRCULARSTRING" "Lcom/example/latmere/latmere/spatial/GeometryType;" (.ref c7) := Sta.start ev_c7 (Or.inr ⟨(ow4 hw), (ow20 hw)⟩)
  obtain ⟨c8, ev_c8⟩ := exa_v nc8
  have E_c8 : Exa s s.heap c8 "com/example/latmere/latmere/spatial/GeometryType" := Exa.start ev_c8 nc8
  have S_c8 : Sta s s.heap "com/example/latmere/latmere/spatial/GeometryType" "COMPOUNDCURVE" "Lcom/example/latmere/latmere/spatial/GeometryType;" (.ref c8) := Sta.start ev_c8 (Or.inr ⟨(ow4 hw), (ow22 hw)⟩)
  obtain ⟨c9, ev_c9⟩ := exa_v nc9
  have E_c9 : Exa s s.heap c9 "com/example/latmere/latmere/spatial/GeometryType" := Exa.start ev_c9 nc9
  have S_c9 : Sta s s.heap "com/example/latmere/latmere/spatial/GeometryType" "CURVEPOLYGON" "Lcom/example/latmere/latmere/spatial/GeometryType;" (.ref c9) := Sta.start ev_c9 (Or.inr ⟨(ow4 hw), (ow24 hw)⟩)
  obtain ⟨c10, ev_c10⟩ := exa_v nc10
  have E_c10 : Exa s s.heap c10 "com/example/latmere/latmere/spatial/GeometryType" := Exa.start ev_c10 nc10
  have S_c10 : Sta s s.heap "com/example/latmere/latmere/spatial/GeometryType" "MULTICURVE" "Lcom/example/latmere/latmere/spatial/GeometryType;" (.ref c10) := Sta.start ev_c10 (Or.inr ⟨(ow4 hw), (ow26 hw)⟩)
  obtain ⟨c11, ev_c11⟩ := exa_v nc11
  have E_c11 : Exa s s.heap c11 "com/example/latmere/latmere/spatial/GeometryType" := Exa.start ev_c11 nc11
  have S_c11 : Sta s s.heap "com/example/latmere/latmere/spatial/GeometryType" "MULTISURFACE" "Lcom/example/latmere/latmere/spatial/GeometryType;" (.ref c11) := Sta.start ev_c11 (Or.inr ⟨(ow4 hw), (ow28 hw)⟩)
  have F_c0_ordinal : Fld s s.heap c0 "java/lang/Enum" "ordinal" "I" (.int (0 : Int32)) := Fld.start ((fld_at ev_c0).symm.trans (own_eqI nc12))
  have F_c1_ordinal : Fld s s.heap c1 "java/lang/Enum" "ordinal" "I" (.int (1 : Int32)) := Fld.start ((fld_at ev_c1).symm.trans (own_eqI nc13))
  have F_c7_ordinal : Fld s s.heap c7 "java/lang/Enum" "ordinal" "I" (.int (7 : Int32)) := Fld.start ((fld_at ev_c7).symm.trans (own_eqI nc14))
  have F_c8_ordinal : Fld s s.heap c8 "java/lang/Enum" "ordinal" "I" (.int (8 : Int32)) := Fld.start ((fld_at ev_c8).symm.trans (own_eqI nc15))
  have F_c3_ordinal : Fld s s.heap c3 "java/lang/Enum" "ordinal" "I" (.int (3 : Int32)) := Fld.start ((fld_at ev_c3).symm.trans (own_eqI nc16))
  have F_c2_ordinal : Fld s s.heap c2 "java/lang/Enum" "ordinal" "I" (.int (2 : Int32)) := Fld.start ((fld_at ev_c2).symm.trans (own_eqI nc17))
  have F_c11_ordinal : Fld s s.heap c11 "java/lang/Enum" "ordinal" "I" (.int (11 : Int32)) := Fld.start ((fld_at ev_c11).symm.trans (own_eqI nc18))
  have F_c4_ordinal : Fld s s.heap c4 "java/lang/Enum" "ordinal" "I" (.int (4 : Int32)) := Fld.start ((fld_at ev_c4).symm.trans (own_eqI nc19))
  have F_c10_ordinal : Fld s s.heap c10 "java/lang/Enum" "ordinal" "I" (.int (10 : Int32)) := Fld.start ((fld_at ev_c10).symm.trans (own_eqI nc20))
  have F_c9_ordinal : Fld s s.heap c9 "java/lang/Enum" "ordinal" "I" (.int (9 : Int32)) := Fld.start ((fld_at ev_c9).symm.trans (own_eqI nc21))
  have F_c6_ordinal : Fld s s.heap c6 "java/lang/Enum" "ordinal" "I" (.int (6 : Int32)) := Fld.start ((fld_at ev_c6).symm.trans (own_eqI nc22))
  have F_c5_ordinal : Fld s s.heap c5 "java/lang/Enum" "ordinal" "I" (.int (5 : Int32)) := Fld.start ((fld_at ev_c5).symm.trans (own_eqI nc23))
  obtain ⟨n, o, h1, h2, h3, _, L, rfl, ⟨rfl, N⟩, hq⟩ := rm0 l s _ hw tables_1 i0 c0 c1 c2 c3 c4 c5 c6 c7 c8 c9 c10 c11 s.heap s.heap.size (Old.start s) S_c0 S_c1 S_c2 S_c3 S_c4 S_c5 S_c6 S_c7 S_c8 S_c9 S_c10 S_c11 E_c0 E_c1 E_c2 E_c3 E_c4 E_c5 E_c6 E_c7 E_c8 E_c9 E_c10 E_c11 F_c0_ordinal F_c1_ordinal F_c2_ordinal F_c3_ordinal F_c4_ordinal F_c5_ordinal F_c6_ordinal F_c7_ordinal F_c8_ordinal F_c9_ordinal F_c10_ordinal F_c11_ordinal p e ha hc hk s m _ below hf ((Spec.applies_iff_loose hf).mp happ).1 ⟨rfl, State.Warmed39.refl s, rfl⟩ trivial
  refine ⟨n, _, h1, h2, h3, hpost _ _ _ _ _ _ ⟨Cond.after_iff.mpr rfl, Cond.after_iff.mpr (eq_i res_at (Term.int_eval (1)) rfl), trivial⟩ ⟨hq.1, hq.2.1, (hq.2.2.sift fun y hy => Or.inr (N y hy)).mono (by decide) (by decide)⟩⟩
theorem main_1_1 : Claimed_1_1 := comes_1 fun _ _ _ _ _ _ h hF => ⟨h.1, hF⟩
theorem main_1_2 : Claimed_1_2 := comes_1 fun _ _ _ _ _ _ h hF => ⟨h.2.1, hF⟩
end Jvm.Pilot.@@N@@
namespace Jvm.Pilot.@@N@@
open Jvm Jvm.ClassFile Sem Op Lib Jvm.Free Jvm.Stand Jvm.Pilot.@@N@@.Jvm.D
/-! MADE BY PROGRAM (witnessworld.py) out of the Statement's table words and the real class files: 15 classes; the members and pool entries that the words name. The judged class is class 1, her method 1. -/
namespace start1
open Jvm.ClassFile
def u (s : String) : CpInfo := .utf8 (stringToUtf16 s)
/-- a pool by its gaps: so many unusable entries, then the entry; so many at the end -/
def gap : Nat → List CpInfo → List CpInfo
  | 0, r => r
  | n + 1, r => .unusable :: gap n r
def poolList (es : List (Nat × CpInfo)) (last : Nat) : List CpInfo := es.foldr (fun e r => gap e.1 (e.2 :: r)) (gap last [])
def pool (es : List (Nat × CpInfo)) (last : Nat) : Array CpInfo := ⟨poolList es last⟩
def fileOf (pool : Array CpInfo) (this : Nat) (attrs : Array Attribute := #[]) (ms : Array MethodInfo := #[]) (fl : Nat := 33) (sup : Nat := 0) (ifs : Array Nat := #[]) (fds : Array FieldInfo := #[]) : ClassFile where
  minorVersion := 0
  majorVersion := 65
  constantPool := pool
  accessFlags := fl
  thisClass := this
  superClass := sup
  interfaces := ifs
  fields := fds
  methods := ms
  attributes := attrs
def plain (name : String) (sup : Option ClassId) : Class where
  name := name
  kind := .ordinary
  loader := none
  accessFlags := 33
  super := sup
  interfaces := #[]
  cf := none
  fields := #[]
  methods := #[]
  instanceTypes := #[]
  staticTypes := #[]
  resolved := #[]
  callSites := []
  init := .initialized
  statics := none
  mirror := none

def pool0 : Array CpInfo := pool [(5, u "<init>"), (0, u "()V"), (1, .class_ 10), (1, u "java/lang/Object")] 113

def k0m0 : Method := { name := "<init>", desc := "()V", sig := { parameters := [], returnType := none }, accessFlags := 1, code := none }
/-- java/lang/Object -/
def k0 : Class := { plain "java/lang/Object" none with
  accessFlags := 33
  interfaces := #[]
  cf := some (fileOf pool0 8 #[] #[{ accessFlags := 1, nameIndex := 5, descriptorIndex := 6, attributes := #[] }] 33 0 #[] #[])
  fields := #[]
  methods := #[k0m0]
  instanceTypes := #[]
  staticTypes := #[]
  resolved := Array.replicate 124 none
  statics := none }

def pool1 : Array CpInfo := pool [(2, .class_ 4), (1, u "java/lang/Object"), (0, u "<init>"), (0, u "()V"), (0, .integer 2147483647), (0, .class_ 9), (0, u "com/example/latmere/latmere/spatial/GeometryType"), (0, .fieldref 8 11), (0, .nameAndType 12 13), (0, u "POINT"), (0, u "Lcom/example/latmere/latmere/spatial/GeometryType;"), (0, .fieldref 8 15), (0, .nameAndType 16 13), (0, u "LINESTRING"), (0, .fieldref 8 18), (0, .nameAndType 19 13), (0, u "POLYGON"), (0, .fieldref 8 21), (0, .nameAndType 22 13), (0, u "MULTIPOINT"), (0, .fieldref 8 24), (0, .nameAndType 25 13), (0, u "MULTILINESTRING"), (0, .fieldref 8 27), (0, .nameAndType 28 13), (0, u "MULTIPOLYGON"), (0, .fieldref 8 30), (0, .nameAndType 31 13), (0, u "GEOMETRYCOLLECTION"), (0, .fieldref 8 33), (0, .nameAndType 34 13), (0, u "CIRCULARSTRING"), (0, .fieldref 8 36), (0, .nameAndType 37 13), (0, u "COMPOUNDCURVE"), (0, .fieldref 8 39), (0, .nameAndType 40 13), (0, u "CURVEPOLYGON"), (0, .fieldref 8 42), (0, .nameAndType 43 13), (0, u "MULTICURVE"), (0, .fieldref 8 45), (0, .nameAndType 46 13), (0, u "MULTISURFACE"), (0, .methodref 8 48), (0, .nameAndType 49 50), (0, u "isCurve"), (0, u "()Z"), (0, .class_ 52), (0, u "com/example/latmere/latmere/spatial/GeometryTypeIsCurvePinLaw"), (2, u "law"), (0, u "(I)Z")] 7

def k1m0 : Method := { name := "<init>", desc := "()V", sig := { parameters := [], returnType := none }, accessFlags := 1, code := none }
def k1c1 : Code := { maxStack := 4, maxLocals := 4, code := code, exceptionTable := #[], attributes := #[] }
def k1m1 : Method := { name := "law", desc := "(I)Z", sig := { parameters := [.int], returnType := some .boolean }, accessFlags := 9, code := some k1c1 }
/-- com/example/latmere/latmere/spatial/GeometryTypeIsCurvePinLaw -/
def k1 : Class := { plain "com/example/latmere/latmere/spatial/GeometryTypeIsCurvePinLaw" (some 0) with
  accessFlags := 49
  interfaces := #[]
  cf := some (fileOf pool1 51 #[] #[{ accessFlags := 1, nameIndex := 5, descriptorIndex := 6, attributes := #[] }, { accessFlags := 9, nameIndex := 55, descriptorIndex := 56, attributes := #[] }] 49 2 #[] #[])
  fields := #[]
  methods := #[k1m0, k1m1]
  instanceTypes := #[]
  staticTypes := #[]
  resolved := Array.replicate 64 none
  statics := none }

def pool2 : Array CpInfo := pool [(1, .class_ 2), (0, u "java/lang/constant/Constable"), (0, .class_ 4), (0, u "java/lang/Object")] 6

/-- java/lang/constant/Constable -/
def k2 : Class := { plain "java/lang/constant/Constable" (some 0) with
  accessFlags := 1537
  interfaces := #[]
  cf := some (fileOf pool2 1 #[] #[] 1537 3 #[] #[])
  fields := #[]
  methods := #[]
  instanceTypes := #[]
  staticTypes := #[]
  resolved := Array.replicate 11 none
  statics := none }

def pool3 : Array CpInfo := pool [(1, .class_ 2), (0, u "java/lang/Comparable"), (0, .class_ 4), (0, u "java/lang/Object")] 7

/-- java/lang/Comparable -/
def k3 : Class := { plain "java/lang/Comparable" (some 0) with
  accessFlags := 1537
  interfaces := #[]
  cf := some (fileOf pool3 1 #[] #[] 1537 3 #[] #[])
  fields := #[]
  methods := #[]
  instanceTypes := #[]
  staticTypes := #[]
  resolved := Array.replicate 12 none
  statics := none }

def pool4 : Array CpInfo := pool [(1, .class_ 2), (0, u "java/io/Serializable"), (0, .class_ 4), (0, u "java/lang/Object")] 2

/-- java/io/Serializable -/
def k4 : Class := { plain "java/io/Serializable" (some 0) with
  accessFlags := 1537
  interfaces := #[]
  cf := some (fileOf pool4 1 #[] #[] 1537 3 #[] #[])
  fields := #[]
  methods := #[]
  instanceTypes := #[]
  staticTypes := #[]
  resolved := Array.replicate 7 none
  statics := none }

def pool5 : Array CpInfo := pool [(2, .class_ 4), (1, u "java/lang/Enum"), (0, u "name"), (0, u "Ljava/lang/String;"), (2, u "ordinal"), (0, u "I"), (1, .class_ 14), (1, u "java/lang/Object"), (4, u "hash"), (86, .class_ 108), (1, u "java/lang/Enum$EnumDesc"), (2, .class_ 112), (0, u "java/lang/constant/Constable"), (0, .class_ 114), (0, u "java/lang/Comparable"), (0, .class_ 116), (0, u "java/io/Serializable")] 87

/-- java/lang/Enum -/
def k5 : Class := { plain "java/lang/Enum" (some 0) with
  accessFlags := 1057
  interfaces := #[2, 3, 4]
  cf := some (fileOf pool5 2 #[.nestMembers #[106]] #[] 1057 12 #[111, 113, 115] #[{ accessFlags := 18, nameIndex := 5, descriptorIndex := 6, attributes := #[] }, { accessFlags := 18, nameIndex := 9, descriptorIndex := 10, attributes := #[] }, { accessFlags := 2, nameIndex := 19, descriptorIndex := 10, attributes := #[] }])
  fields := #[{ name := "name", type := (.object "java/lang/String"), accessFlags := 18, slot := 0, constantValue := 0 }, { name := "ordinal", type := .int, accessFlags := 18, slot := 1, constantValue := 0 }, { name := "hash", type := .int, accessFlags := 2, slot := 2, constantValue := 0 }]
  methods := #[]
  instanceTypes := #[(.object "java/lang/String"), .int, .int]
  staticTypes := #[]
  resolved := Array.replicate 204 none
  statics := none }

def pool6 : Array CpInfo := pool [(1, .class_ 2), (0, u "com/example/latmere/latmere/spatial/GeometryType"), (2, u "POINT"), (0, u "Lcom/example/latmere/latmere/spatial/GeometryType;"), (0, .fieldref 1 8), (0, .nameAndType 9 6), (0, u "LINESTRING"), (2, u "POLYGON"), (2, u "MULTIPOINT"), (2, u "MULTILINESTRING"), (2, u "MULTIPOLYGON"), (2, u "GEOMETRYCOLLECTION"), (0, .fieldref 1 26), (0, .nameAndType 27 6), (0, u "CIRCULARSTRING"), (0, .fieldref 1 29), (0, .nameAndType 30 6), (0, u "COMPOUNDCURVE"), (2, u "CURVEPOLYGON"), (2, u "MULTICURVE"), (2, u "MULTISURFACE"), (2, u "$VALUES"), (0, u "[Lcom/example/latmere/latmere/spatial/GeometryType;"), (6, .class_ 52), (1, u "java/lang/Enum"), (8, u "BY_CODE"), (20, u "isCurve"), (0, u "()Z")] 42

def k6c0 : Code := { maxStack := 2, maxLocals := 1, code := prog_35_method_7_code, exceptionTable := #[], attributes := #[] }
def k6m0 : Method := { name := "isCurve", desc := "()Z", sig := { parameters := [], returnType := some .boolean }, accessFlags := 0, code := some k6c0 }
/-- com/example/latmere/latmere/spatial/GeometryType -/
def k6 : Class := { plain "com/example/latmere/latmere/spatial/GeometryType" (some 5) with
  accessFlags := 16432
  interfaces := #[]
  cf := some (fileOf pool6 1 #[] #[{ accessFlags := 0, nameIndex := 82, descriptorIndex := 83, attributes := #[] }] 16432 50 #[] #[{ accessFlags := 16409, nameIndex := 5, descriptorIndex := 6, attributes := #[] }, { accessFlags := 16409, nameIndex := 9, descriptorIndex := 6, attributes := #[] }, { accessFlags := 16409, nameIndex := 12, descriptorIndex := 6, attributes := #[] }, { accessFlags := 16409, nameIndex := 15, descriptorIndex := 6, attributes := #[] }, { accessFlags := 16409, nameIndex := 18, descriptorIndex := 6, attributes := #[] }, { accessFlags := 16409, nameIndex := 21, descriptorIndex := 6, attributes := #[] }, { accessFlags := 16409, nameIndex := 24, descriptorIndex := 6, attributes := #[] }, { accessFlags := 16409, nameIndex := 27, descriptorIndex := 6, attributes := #[] }, { accessFlags := 16409, nameIndex := 30, descriptorIndex := 6, attributes := #[] }, { accessFlags := 16409, nameIndex := 33, descriptorIndex := 6, attributes := #[] }, { accessFlags := 16409, nameIndex := 36, descriptorIndex := 6, attributes := #[] }, { accessFlags := 16409, nameIndex := 39, descriptorIndex := 6, attributes := #[] }, { accessFlags := 26, nameIndex := 61, descriptorIndex := 43, attributes := #[] }, { accessFlags := 4122, nameIndex := 42, descriptorIndex := 43, attributes := #[] }])
  fields := #[{ name := "POINT", type := (.object "com/example/latmere/latmere/spatial/GeometryType"), accessFlags := 16409, slot := 0, constantValue := 0 }, { name := "LINESTRING", type := (.object "com/example/latmere/latmere/spatial/GeometryType"), accessFlags := 16409, slot := 1, constantValue := 0 }, { name := "POLYGON", type := (.object "com/example/latmere/latmere/spatial/GeometryType"), accessFlags := 16409, slot := 2, constantValue := 0 }, { name := "MULTIPOINT", type := (.object "com/example/latmere/latmere/spatial/GeometryType"), accessFlags := 16409, slot := 3, constantValue := 0 }, { name := "MULTILINESTRING", type := (.object "com/example/latmere/latmere/spatial/GeometryType"), accessFlags := 16409, slot := 4, constantValue := 0 }, { name := "MULTIPOLYGON", type := (.object "com/example/latmere/latmere/spatial/GeometryType"), accessFlags := 16409, slot := 5, constantValue := 0 }, { name := "GEOMETRYCOLLECTION", type := (.object "com/example/latmere/latmere/spatial/GeometryType"), accessFlags := 16409, slot := 6, constantValue := 0 }, { name := "CIRCULARSTRING", type := (.object "com/example/latmere/latmere/spatial/GeometryType"), accessFlags := 16409, slot := 7, constantValue := 0 }, { name := "COMPOUNDCURVE", type := (.object "com/example/latmere/latmere/spatial/GeometryType"), accessFlags := 16409, slot := 8, constantValue := 0 }, { name := "CURVEPOLYGON", type := (.object "com/example/latmere/latmere/spatial/GeometryType"), accessFlags := 16409, slot := 9, constantValue := 0 }, { name := "MULTICURVE", type := (.object "com/example/latmere/latmere/spatial/GeometryType"), accessFlags := 16409, slot := 10, constantValue := 0 }, { name := "MULTISURFACE", type := (.object "com/example/latmere/latmere/spatial/GeometryType"), accessFlags := 16409, slot := 11, constantValue := 0 }, { name := "BY_CODE", type := (.array (.object "com/example/latmere/latmere/spatial/GeometryType")), accessFlags := 26, slot := 12, constantValue := 0 }, { name := "$VALUES", type := (.array (.object "com/example/latmere/latmere/spatial/GeometryType")), accessFlags := 4122, slot := 13, constantValue := 0 }]
  methods := #[k6m0]
  instanceTypes := #[(.object "java/lang/String"), .int, .int]
  staticTypes := #[(.object "com/example/latmere/latmere/spatial/GeometryType"), (.object "com/example/latmere/latmere/spatial/GeometryType"), (.object "com/example/latmere/latmere/spatial/GeometryType"), (.object "com/example/latmere/latmere/spatial/GeometryType"), (.object "com/example/latmere/latmere/spatial/GeometryType"), (.object "com/example/latmere/latmere/spatial/GeometryType"), (.object "com/example/latmere/latmere/spatial/GeometryType"), (.object "com/example/latmere/latmere/spatial/GeometryType"), (.object "com/example/latmere/latmere/spatial/GeometryType"), (.object "com/example/latmere/latmere/spatial/GeometryType"), (.object "com/example/latmere/latmere/spatial/GeometryType"), (.object "com/example/latmere/latmere/spatial/GeometryType"), (.array (.object "com/example/latmere/latmere/spatial/GeometryType")), (.array (.object "com/example/latmere/latmere/spatial/GeometryType"))]
  resolved := Array.replicate 126 none
  statics := some 0 }

def pool7 : Array CpInfo := pool [(1, u "java/lang/Cloneable"), (0, .class_ 1), (0, u "java/lang/Object"), (0, .class_ 3)] 3

/-- java/lang/Cloneable -/
def k7 : Class := { plain "java/lang/Cloneable" (some 0) with
  accessFlags := 1537
  interfaces := #[]
  cf := some (fileOf pool7 2 #[] #[] 1537 4 #[] #[])
  fields := #[]
  methods := #[]
  instanceTypes := #[]
  staticTypes := #[]
  resolved := Array.replicate 8 none
  statics := none }

/-- the primitive boolean -/
def k8 : Class := { plain "boolean" none with kind := .primitive 'Z', accessFlags := 0x411 }
/-- [Z -/
def k9 : Class := { plain "[Z" (some 0) with kind := .array 8 .boolean, interfaces := #[7, 4], accessFlags := 1041 }

/-- the primitive byte -/
def k10 : Class := { plain "byte" none with kind := .primitive 'B', accessFlags := 0x411 }
/-- [B -/
def k11 : Class := { plain "[B" (some 0) with kind := .array 10 .byte, interfaces := #[7, 4], accessFlags := 1041 }

/-- the primitive int -/
def k12 : Class := { plain "int" none with kind := .primitive 'I', accessFlags := 0x411 }
/-- [I -/
def k13 : Class := { plain "[I" (some 0) with kind := .array 12 .int, interfaces := #[7, 4], accessFlags := 1041 }

/-- [Lcom/example/latmere/latmere/spatial/GeometryType; -/
def k14 : Class := { plain "[Lcom/example/latmere/latmere/spatial/GeometryType;" (some 0) with kind := .array 6 (.object "com/example/latmere/latmere/spatial/GeometryType"), interfaces := #[7, 4], accessFlags := 1041 }

def heap : Heap := #[{ cls := 6, slots := #[.ref 1, .ref 2, .ref 3, .ref 4, .ref 5, .ref 6, .ref 7, .ref 8, .ref 9, .ref 10, .ref 11, .ref 12, .null, .null], vm := .statics 6 },
  { cls := 6, slots := #[.null, .int 0, .int 0], vm := .none },
  { cls := 6, slots := #[.null, .int 1, .int 0], vm := .none },
  { cls := 6, slots := #[.null, .int 2, .int 0], vm := .none },
  { cls := 6, slots := #[.null, .int 3, .int 0], vm := .none },
  { cls := 6, slots := #[.null, .int 4, .int 0], vm := .none },
  { cls := 6, slots := #[.null, .int 5, .int 0], vm := .none },
  { cls := 6, slots := #[.null, .int 6, .int 0], vm := .none },
  { cls := 6, slots := #[.null, .int 7, .int 0], vm := .none },
  { cls := 6, slots := #[.null, .int 8, .int 0], vm := .none },
  { cls := 6, slots := #[.null, .int 9, .int 0], vm := .none },
  { cls := 6, slots := #[.null, .int 10, .int 0], vm := .none },
  { cls := 6, slots := #[.null, .int 11, .int 0], vm := .none }]
def classes : Array Class := #[k0, k1, k2, k3, k4, k5, k6, k7, k8, k9, k10, k11, k12, k13, k14]
def interned : List (Array UInt16 × Addr) := []
def slotsUsed : Nat := 50
def theMethod : MethodId := ⟨1, 1⟩
def args0 : Array Value := #[.int 5]
def aboutOver (below : List Frame) : State where
  vm := { classes := classes, interned := interned.toArray }
  heap := heap
  slotsUsed := slotsUsed
  threads := #[{ frames := .invoking theMethod args0 :: below }]
def below0 : List Frame := [.native { method := ⟨0, 0⟩, args := #[] }]
def about1 : State := aboutOver below0
def p0 : Program := .bare "" "" ""
def e0 : Env := launch0.env 0 0 0
theorem w_frames : about1.frames = Frame.invoking theMethod args0 :: below0 := rfl
set_option maxRecDepth 65536 in
theorem w_args : argsFit about1.vm theMethod args0 = true := by decide +kernel
set_option maxRecDepth 65536 in
theorem w_heap : heapFits about1 = true := by decide +kernel
set_option maxRecDepth 65536 in
theorem w_runnable : about1.curStatus? = some .runnable := by decide +kernel
set_option maxRecDepth 65536 in
theorem w_alone : about1.alone = true := by decide +kernel
set_option maxRecDepth 65536 in
theorem w_named : about1.methodNamed? x = some theMethod := by decide +kernel
set_option maxRecDepth 65536 in
theorem w_hears : about1.hears theMethod below0 = true := by decide +kernel
set_option maxRecDepth 65536 in
theorem w_ripe : about1.ripe theMethod args0 below0 = true := by decide +kernel
theorem w_running : about1.status = .running := rfl
set_option maxRecDepth 65536 in
theorem w_room : about1.hasRoom e0.platform room_1 = true :=
  launch0.hasRoom_least _ room_1 (by decide +kernel) (by decide +kernel) (by decide +kernel) (by decide +kernel) (by decide +kernel) (by decide +kernel)
theorem allAtoms_all (ts : List Jvm.Cond) (a : Array Jvm.Value) (st : Jvm.State) : (allAtoms ts).before a st = ts.all (fun c => c.before a st) := by
  induction ts with
  | nil => rfl
  | cons c t ih =>
    show (Jvm.Cond.and c (allAtoms t)).before a st = _
    rw [Jvm.Cond.before_and, ih, List.all_cons]
def words1 : List Jvm.Cond := Jvm.Cond.code x code maxLocals ret :: tables_1
/-- a 'code' word, met by the world's own term for the bytes: nothing is compared byte by byte -/
theorem code_word {y : MethodName} {bytes : ByteArray} {mx : Nat} {rt : Option FieldType} {a : Array Value} {s : State} {m : MethodId} {meth : Method} {c : Code} (h1 : s.methodNamed? y = some m) (h2 : s.vm.method? m = some meth) (h3 : meth.code = some c) (h4 : c.code = bytes)
    (h5 : (c.maxLocals == mx && c.exceptionTable.isEmpty && decide (c.maxStack ≤ mostOperands) && decide (meth.sig.returnType = rt) && !meth.locks && decide (parseMethodDescriptor y.desc = some meth.sig)) = true) : (Jvm.Cond.code y bytes mx rt).before a s = true := by
  simp only [Bool.and_eq_true, beq_iff_eq, Bool.not_eq_true', decide_eq_true_eq] at h5
  obtain ⟨⟨⟨⟨⟨g1, g2⟩, g3⟩, g4⟩, g5⟩, g6⟩ := h5
  simp [Cond.before, Cond.holds, Cond.value, h1, h2, h3, h4, g1, g2, g3, g4, g5, g6]
def isCode : Jvm.Cond → Bool
  | .code _ _ _ _ => true
  | _ => false
theorem all_split {L : List Jvm.Cond} {P : Jvm.Cond → Bool} (h1 : L.all (fun c => isCode c || P c) = true) (h2 : ∀ c ∈ L.filter isCode, P c = true) : L.all P = true := by
  refine List.all_eq_true.mpr fun c hc => ?_
  have h := List.all_eq_true.mp h1 c hc
  rcases Bool.eq_false_or_eq_true (isCode c) with hi | hi
  · exact h2 c (List.mem_filter.mpr ⟨hc, hi⟩)
  · simpa [hi] using h
set_option maxRecDepth 65536 in
theorem w_c0 : (Jvm.Cond.code x code maxLocals ret).before args0 about1 = true := code_word (m := ⟨1, 1⟩) (meth := k1m1) (c := k1c1) (by decide +kernel) rfl rfl rfl (by decide +kernel)
set_option maxRecDepth 65536 in
theorem w_c1 : (Jvm.Cond.code ({ cls := "com/example/latmere/latmere/spatial/GeometryType", name := "isCurve", desc := "()Z" } : Jvm.MethodName) prog_35_method_7_code (1 : Nat) (Option.some Jvm.ClassFile.FieldType.boolean)).before args0 about1 = true := code_word (m := ⟨6, 0⟩) (meth := k6m0) (c := k6c0) (by decide +kernel) rfl rfl rfl (by decide +kernel)
def codes1 : List Jvm.Cond := [Jvm.Cond.code x code maxLocals ret, Jvm.Cond.code ({ cls := "com/example/latmere/latmere/spatial/GeometryType", name := "isCurve", desc := "()Z" } : Jvm.MethodName) prog_35_method_7_code (1 : Nat) (Option.some Jvm.ClassFile.FieldType.boolean)]
set_option maxRecDepth 65536 in
theorem codes_eq : words1.filter isCode = codes1 := rfl
theorem w_codes : ∀ c ∈ words1.filter isCode, c.before args0 about1 = true := by
  rw [codes_eq]
  intro c hc
  simp only [codes1, List.mem_cons, List.not_mem_nil, or_false] at hc
  rcases hc with rfl | rfl
  · exact w_c0
  · exact w_c1
set_option maxRecDepth 65536 in
theorem w_t1 : (words1.take 24).all (fun c => isCode c || c.before args0 about1) = true := by decide +kernel
set_option maxRecDepth 65536 in
theorem w_t2 : (words1.drop 24).all (fun c => isCode c || c.before args0 about1) = true := by decide +kernel
theorem w_tables : (allAtoms (Jvm.Cond.code x code maxLocals ret :: tables_1)).before args0 about1 = true := by
  rw [allAtoms_all]
  show words1.all (fun c => c.before args0 about1) = true
  refine all_split ?_ w_codes
  rw [← List.take_append_drop 24 words1, List.all_append, w_t1, w_t2]
  rfl
set_option maxRecDepth 65536 in
theorem w_case : (Jvm.Cond.and given_1 narrow_1).before args0 about1 = true := by decide +kernel
theorem w_applies : (headSpec (Jvm.Cond.code x code maxLocals ret :: tables_1) room_1).applies x e0.platform about1 = true :=
  (Spec.applies_iff w_frames).mpr ⟨w_running, w_runnable, w_alone, w_named, w_hears, w_ripe, w_room, w_tables⟩
theorem atStart : AtStart classFile x code maxLocals ret World_1 tables_1 room_1 Calls_1 rest_1 Pre_1 launch0 p0 e0 about1 theMethod args0 below0 :=
  ⟨lists_1, trivial, launch0.admits_env _ _ _, launch0.least_env, fairChoices_fair.cas, fairChoices_fair.clock, w_frames, w_args, w_heap, w_applies, trivial, trivial, w_case⟩
end start1
theorem witness_1 : WitnessClaimed_1 := ⟨start1.p0, start1.e0, start1.about1, start1.theMethod, start1.args0, start1.below0, start1.atStart⟩
end Jvm.Pilot.@@N@@
