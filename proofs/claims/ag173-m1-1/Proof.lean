import JvmDerived
import JvmDerived.Pilot.@@N@@Statement
import JvmDerived.Pilot.@@N@@Code
set_option linter.unusedVariables false
set_option linter.unusedSimpArgs false
namespace Jvm.Pilot.@@N@@
open Jvm Jvm.ClassFile Sem Op Lib Jvm.Free Jvm.Stand Jvm.LawKit Jvm.RoadKit Bundle Jvm.Pilot.@@N@@.Jvm.D
def own_Ends (tb : Tables) (e : Env) (below : List Frame) (P : Outcome → State → Prop) (S : State) : Prop := ∃ t o, Steps tb e below S t ∧ t.status = .running ∧ Ended t below o ∧ P o t
theorem own_to {tb : Tables} {e : Env} {below : List Frame} {P : Outcome → State → Prop} {S S' : State} (h : ∀ target, Steps tb e below S' target → Steps tb e below S target) (g : own_Ends tb e below P S') : own_Ends tb e below P S := by
  obtain ⟨t, o, h1, r⟩ := g
  exact ⟨t, o, h _ h1, r⟩
theorem own_tr {tb : Tables} {e : Env} {below : List Frame} {P : Outcome → State → Prop} {S S' : State} (h : Steps tb e below S S') (g : own_Ends tb e below P S') : own_Ends tb e below P S := by
  obtain ⟨t, o, h1, r⟩ := g
  exact ⟨t, o, h.trans h1, r⟩
theorem own_cast {tb : Tables} {e : Env} {below : List Frame} {P : Outcome → State → Prop} {T : State} {f f' : JFrame} (q : f = f') (g : own_Ends tb e below P (T.setTop f')) : own_Ends tb e below P (T.setTop f) := q ▸ g
def own_P (s : State) (Q : Option Value → Heap → List Loc → Prop) (ck sk : Nat) : Outcome → State → Prop := fun o U' => ∃ v L, o = .returned v ∧ Q v U'.heap L ∧ FrameEnd s o U' L ck sk
theorem own_leave {p : Program} {l : Launch} {e : Env} {R : Room} {s : State} {m : MethodId} {args : Array Value} {below : List Frame} {meth : Method} {c : Code} {T : State} {locs : List Loc} {cells slots : Nat} {F : JFrame} {Q : Option Value → Heap → List Loc → Prop} {ck sk : Nat}
    (X : Stand p l e R s m args below meth c T locs cells slots) {v : Option Value} (hv : meth.sig.returnType = none → v = none) (hQ : Q v T.heap locs) (hc : cells ≤ ck) (hs : slots ≤ sk)
    (hst : ∀ fs, (∀ (f : JFrame) (acts : List Action), f.method = m → f.locked = none → f.entered = [] → (doReturn e (T.setTop f) acts v).1 = T.setFrames fs) → Steps p.tables e below (T.setTop F) (T.setFrames fs)) (hlocks : meth.locks = false := by first | assumption | exact BodyLoose.notSynchronized (by assumption) | exact Body.notSynchronized (by assumption)) : own_Ends p.tables e below (own_P s Q ck sk) (T.setTop F) := by
  obtain ⟨fs, hr, hrun, hended, hW, hsame⟩ := X.leave hv hlocks
  exact ⟨_, _, hst fs hr, hrun, hended, _, _, rfl, hQ, ⟨_, rfl⟩, hW, hsame.mono hc hs⟩
def own_PW (s : State) (Q : Option Value → Heap → List Loc → Prop) (ck sk : Nat) : Outcome → State → Prop := fun o U' => ∃ v L, o = .returned v ∧ Q v U'.heap L ∧ ReturnedEndW s o U' L ck sk
theorem own_leaveW {p : Program} {l : Launch} {e : Env} {R : Room} {s : State} {vm1 : Vm} {m : MethodId} {args : Array Value} {below : List Frame} {meth : Method} {c : Code} {T : State} {locs : List Loc} {cells slots : Nat} {F : JFrame} {Q : Option Value → Heap → List Loc → Prop} {ck sk k0 : Nat}
    (X : Stand p l e R (s.setVm vm1) m args below meth c T locs cells slots) (hS : s.Since vm1 k0) (hk : k0 ≤ T.heap.size) {v : Option Value} (hv : meth.sig.returnType = none → v = none) (hQ : Q v T.heap locs) (hc : cells ≤ ck) (hs : slots ≤ sk)
    (hst : ∀ fs, (∀ (f : JFrame) (acts : List Action), f.method = m → f.locked = none → f.entered = [] → (doReturn e (T.setTop f) acts v).1 = T.setFrames fs) → Steps p.tables e below (T.setTop F) (T.setFrames fs)) (hlocks : meth.locks = false := by first | assumption | exact BodyLoose.notSynchronized (by assumption) | exact Body.notSynchronized (by assumption)) : own_Ends p.tables e below (own_PW s Q ck sk) (T.setTop F) := by
  obtain ⟨fs, hr, hrun, hended, h1, h2, h3, h4⟩ := X.leaveW hS hk hv hlocks
  exact ⟨_, _, hst fs hr, hrun, hended, _, _, rfl, hQ, h1, h2, h3, h4.mono hc hs⟩
theorem own_old_le {Z : State} {n0 : Nat} {h : Heap} (O : Old Z n0 h) : n0 ≤ h.size := O.1 ▸ O.2.1
theorem own_le {a b : Nat} (h : Nat.ble a b = true) : a ≤ b := Nat.le_of_ble_eq_true h
theorem own_lt {a b : Nat} (h : Nat.ble (a + 1) b = true) : a < b := Nat.le_of_ble_eq_true h
theorem own_irr (x : Int32) : ¬ x < x := by rw [Int32.lt_iff_toInt_lt]; omega
theorem own_eqI {args : Array Value} {s : State} {t : Term} {k : Int32} (h : (Jvm.Cond.eq t (.int k)).value args s none s [] = some true) : t.eval args s none [] s = some (.int k) := by
  obtain ⟨x, y, hx, hy, -, hk⟩ := cmp_v (Or.inl h)
  cases (show some (Value.int k) = some y from hy)
  obtain ⟨z, rfl⟩ := hk
  have e : (Term.int k).eval args s none [] s = some (.int k) := rfl
  simp only [Cond.value, hx, e, Option.some.injEq, decide_eq_true_eq] at h
  rw [hx]
  simp_all
theorem own_intne {a b : Int32} (h : a ≠ b) : Value.int a ≠ Value.int b := fun q => h (Value.int.inj q)

abbrev oM0 : MethodName := ⟨"com/example/latmere/latmere/spatial/GeometryType", "holdsCoordinates", "()Z"⟩
theorem ow0 {Z : State} {a0 : Array Value} (hw : ∀ d ∈ tables_1, d.before a0 Z = true) : (Jvm.Cond.classLink "com/example/latmere/latmere/spatial/GeometryTypeHoldsCoordinatesPinLaw" (7 : Nat) "com/example/latmere/latmere/spatial/GeometryType").before a0 Z = true := hw _ (List.mem_of_getElem? (i := 0) rfl)
theorem ow1 {Z : State} {a0 : Array Value} (hw : ∀ d ∈ tables_1, d.before a0 Z = true) : (Jvm.Cond.arrayOver (Jvm.ClassFile.FieldType.object "com/example/latmere/latmere/spatial/GeometryType")).before a0 Z = true := hw _ (List.mem_of_getElem? (i := 1) rfl)
theorem ow2 {Z : State} {a0 : Array Value} (hw : ∀ d ∈ tables_1, d.before a0 Z = true) : (Jvm.Cond.fieldLink "com/example/latmere/latmere/spatial/GeometryTypeHoldsCoordinatesPinLaw" (9 : Nat) "com/example/latmere/latmere/spatial/GeometryType" "POINT" "Lcom/example/latmere/latmere/spatial/GeometryType;").before a0 Z = true := hw _ (List.mem_of_getElem? (i := 2) rfl)
theorem ow3 {Z : State} {a0 : Array Value} (hw : ∀ d ∈ tables_1, d.before a0 Z = true) : (Jvm.Cond.initialized "com/example/latmere/latmere/spatial/GeometryType").before a0 Z = true := hw _ (List.mem_of_getElem? (i := 3) rfl)
theorem ow4 {Z : State} {a0 : Array Value} (hw : ∀ d ∈ tables_1, d.before a0 Z = true) : (Jvm.Cond.laysStatic "com/example/latmere/latmere/spatial/GeometryType" "POINT" "Lcom/example/latmere/latmere/spatial/GeometryType;").before a0 Z = true := hw _ (List.mem_of_getElem? (i := 4) rfl)
theorem ow6 {Z : State} {a0 : Array Value} (hw : ∀ d ∈ tables_1, d.before a0 Z = true) : (Jvm.Cond.fieldLink "com/example/latmere/latmere/spatial/GeometryTypeHoldsCoordinatesPinLaw" (13 : Nat) "com/example/latmere/latmere/spatial/GeometryType" "LINESTRING" "Lcom/example/latmere/latmere/spatial/GeometryType;").before a0 Z = true := hw _ (List.mem_of_getElem? (i := 6) rfl)
theorem ow7 {Z : State} {a0 : Array Value} (hw : ∀ d ∈ tables_1, d.before a0 Z = true) : (Jvm.Cond.laysStatic "com/example/latmere/latmere/spatial/GeometryType" "LINESTRING" "Lcom/example/latmere/latmere/spatial/GeometryType;").before a0 Z = true := hw _ (List.mem_of_getElem? (i := 7) rfl)
theorem ow8 {Z : State} {a0 : Array Value} (hw : ∀ d ∈ tables_1, d.before a0 Z = true) : (Jvm.Cond.fieldLink "com/example/latmere/latmere/spatial/GeometryTypeHoldsCoordinatesPinLaw" (16 : Nat) "com/example/latmere/latmere/spatial/GeometryType" "POLYGON" "Lcom/example/latmere/latmere/spatial/GeometryType;").before a0 Z = true := hw _ (List.mem_of_getElem? (i := 8) rfl)
theorem ow9 {Z : State} {a0 : Array Value} (hw : ∀ d ∈ tables_1, d.before a0 Z = true) : (Jvm.Cond.laysStatic "com/example/latmere/latmere/spatial/GeometryType" "POLYGON" "Lcom/example/latmere/latmere/spatial/GeometryType;").before a0 Z = true := hw _ (List.mem_of_getElem? (i := 9) rfl)
theorem ow10 {Z : State} {a0 : Array Value} (hw : ∀ d ∈ tables_1, d.before a0 Z = true) : (Jvm.Cond.fieldLink "com/example/latmere/latmere/spatial/GeometryTypeHoldsCoordinatesPinLaw" (19 : Nat) "com/example/latmere/latmere/spatial/GeometryType" "MULTIPOINT" "Lcom/example/latmere/latmere/spatial/GeometryType;").before a0 Z = true := hw _ (List.mem_of_getElem? (i := 10) rfl)
theorem ow11 {Z : State} {a0 : Array Value} (hw : ∀ d ∈ tables_1, d.before a0 Z = true) : (Jvm.Cond.laysStatic "com/example/latmere/latmere/spatial/GeometryType" "MULTIPOINT" "Lcom/example/latmere/latmere/spatial/GeometryType;").before a0 Z = true := hw _ (List.mem_of_getElem? (i := 11) rfl)
theorem ow12 {Z : State} {a0 : Array Value} (hw : ∀ d ∈ tables_1, d.before a0 Z = true) : (Jvm.Cond.fieldLink "com/example/latmere/latmere/spatial/GeometryTypeHoldsCoordinatesPinLaw" (22 : Nat) "com/example/latmere/latmere/spatial/GeometryType" "MULTILINESTRING" "Lcom/example/latmere/latmere/spatial/GeometryType;").before a0 Z = true := hw _ (List.mem_of_getElem? (i := 12) rfl)
theorem ow13 {Z : State} {a0 : Array Value} (hw : ∀ d ∈ tables_1, d.before a0 Z = true) : (Jvm.Cond.laysStatic "com/example/latmere/latmere/spatial/GeometryType" "MULTILINESTRING" "Lcom/example/latmere/latmere/spatial/GeometryType;").before a0 Z = true := hw _ (List.mem_of_getElem? (i := 13) rfl)
theorem ow14 {Z : State} {a0 : Array Value} (hw : ∀ d ∈ tables_1, d.before a0 Z = true) : (Jvm.Cond.fieldLink "com/example/latmere/latmere/spatial/GeometryTypeHoldsCoordinatesPinLaw" (25 : Nat) "com/example/latmere/latmere/spatial/GeometryType" "MULTIPOLYGON" "Lcom/example/latmere/latmere/spatial/GeometryType;").before a0 Z = true := hw _ (List.mem_of_getElem? (i := 14) rfl)
theorem ow15 {Z : State} {a0 : Array Value} (hw : ∀ d ∈ tables_1, d.before a0 Z = true) : (Jvm.Cond.laysStatic "com/example/latmere/latmere/spatial/GeometryType" "MULTIPOLYGON" "Lcom/example/latmere/latmere/spatial/GeometryType;").before a0 Z = true := hw _ (List.mem_of_getElem? (i := 15) rfl)
theorem ow16 {Z : State} {a0 : Array Value} (hw : ∀ d ∈ tables_1, d.before a0 Z = true) : (Jvm.Cond.fieldLink "com/example/latmere/latmere/spatial/GeometryTypeHoldsCoordinatesPinLaw" (28 : Nat) "com/example/latmere/latmere/spatial/GeometryType" "GEOMETRYCOLLECTION" "Lcom/example/latmere/latmere/spatial/GeometryType;").before a0 Z = true := hw _ (List.mem_of_getElem? (i := 16) rfl)
theorem ow17 {Z : State} {a0 : Array Value} (hw : ∀ d ∈ tables_1, d.before a0 Z = true) : (Jvm.Cond.laysStatic "com/example/latmere/latmere/spatial/GeometryType" "GEOMETRYCOLLECTION" "Lcom/example/latmere/latmere/spatial/GeometryType;").before a0 Z = true := hw _ (List.mem_of_getElem? (i := 17) rfl)
theorem ow18 {Z : State} {a0 : Array Value} (hw : ∀ d ∈ tables_1, d.before a0 Z = true) : (Jvm.Cond.fieldLink "com/example/latmere/latmere/spatial/GeometryTypeHoldsCoordinatesPinLaw" (31 : Nat) "com/example/latmere/latmere/spatial/GeometryType" "CIRCULARSTRING" "Lcom/example/latmere/latmere/spatial/GeometryType;").before a0 Z = true := hw _ (List.mem_of_getElem? (i := 18) rfl)
theorem ow19 {Z : State} {a0 : Array Value} (hw : ∀ d ∈ tables_1, d.before a0 Z = true) : (Jvm.Cond.laysStatic "com/example/latmere/latmere/spatial/GeometryType" "CIRCULARSTRING" "Lcom/example/latmere/latmere/spatial/GeometryType;").before a0 Z = true := hw _ (List.mem_of_getElem? (i := 19) rfl)
theorem ow20 {Z : State} {a0 : Array Value} (hw : ∀ d ∈ tables_1, d.before a0 Z = true) : (Jvm.Cond.fieldLink "com/example/latmere/latmere/spatial/GeometryTypeHoldsCoordinatesPinLaw" (34 : Nat) "com/example/latmere/latmere/spatial/GeometryType" "COMPOUNDCURVE" "Lcom/example/latmere/latmere/spatial/GeometryType;").before a0 Z = true := hw _ (List.mem_of_getElem? (i := 20) rfl)
theorem ow21 {Z : State} {a0 : Array Value} (hw : ∀ d ∈ tables_1, d.before a0 Z = true) : (Jvm.Cond.laysStatic "com/example/latmere/latmere/spatial/GeometryType" "COMPOUNDCURVE" "Lcom/example/latmere/latmere/spatial/GeometryType;").before a0 Z = true := hw _ (List.mem_of_getElem? (i := 21) rfl)
theorem ow22 {Z : State} {a0 : Array Value} (hw : ∀ d ∈ tables_1, d.before a0 Z = true) : (Jvm.Cond.fieldLink "com/example/latmere/latmere/spatial/GeometryTypeHoldsCoordinatesPinLaw" (37 : Nat) "com/example/latmere/latmere/spatial/GeometryType" "CURVEPOLYGON" "Lcom/example/latmere/latmere/spatial/GeometryType;").before a0 Z = true := hw _ (List.mem_of_getElem? (i := 22) rfl)
theorem ow23 {Z : State} {a0 : Array Value} (hw : ∀ d ∈ tables_1, d.before a0 Z = true) : (Jvm.Cond.laysStatic "com/example/latmere/latmere/spatial/GeometryType" "CURVEPOLYGON" "Lcom/example/latmere/latmere/spatial/GeometryType;").before a0 Z = true := hw _ (List.mem_of_getElem? (i := 23) rfl)
theorem ow24 {Z : State} {a0 : Array Value} (hw : ∀ d ∈ tables_1, d.before a0 Z = true) : (Jvm.Cond.fieldLink "com/example/latmere/latmere/spatial/GeometryTypeHoldsCoordinatesPinLaw" (40 : Nat) "com/example/latmere/latmere/spatial/GeometryType" "MULTICURVE" "Lcom/example/latmere/latmere/spatial/GeometryType;").before a0 Z = true := hw _ (List.mem_of_getElem? (i := 24) rfl)
theorem ow25 {Z : State} {a0 : Array Value} (hw : ∀ d ∈ tables_1, d.before a0 Z = true) : (Jvm.Cond.laysStatic "com/example/latmere/latmere/spatial/GeometryType" "MULTICURVE" "Lcom/example/latmere/latmere/spatial/GeometryType;").before a0 Z = true := hw _ (List.mem_of_getElem? (i := 25) rfl)
theorem ow26 {Z : State} {a0 : Array Value} (hw : ∀ d ∈ tables_1, d.before a0 Z = true) : (Jvm.Cond.fieldLink "com/example/latmere/latmere/spatial/GeometryTypeHoldsCoordinatesPinLaw" (43 : Nat) "com/example/latmere/latmere/spatial/GeometryType" "MULTISURFACE" "Lcom/example/latmere/latmere/spatial/GeometryType;").before a0 Z = true := hw _ (List.mem_of_getElem? (i := 26) rfl)
theorem ow27 {Z : State} {a0 : Array Value} (hw : ∀ d ∈ tables_1, d.before a0 Z = true) : (Jvm.Cond.laysStatic "com/example/latmere/latmere/spatial/GeometryType" "MULTISURFACE" "Lcom/example/latmere/latmere/spatial/GeometryType;").before a0 Z = true := hw _ (List.mem_of_getElem? (i := 27) rfl)
theorem ow28 {Z : State} {a0 : Array Value} (hw : ∀ d ∈ tables_1, d.before a0 Z = true) : (Jvm.Cond.constant "com/example/latmere/latmere/spatial/GeometryTypeHoldsCoordinatesPinLaw" (46 : Nat) (2147483647 : Int32)).before a0 Z = true := hw _ (List.mem_of_getElem? (i := 28) rfl)
theorem ow29 {Z : State} {a0 : Array Value} (hw : ∀ d ∈ tables_1, d.before a0 Z = true) : (Jvm.Cond.methodLink "com/example/latmere/latmere/spatial/GeometryTypeHoldsCoordinatesPinLaw" (47 : Nat) ({ cls := "com/example/latmere/latmere/spatial/GeometryType", name := "holdsCoordinates", desc := "()Z" } : Jvm.MethodName)).before a0 Z = true := hw _ (List.mem_of_getElem? (i := 29) rfl)
theorem ow30 {Z : State} {a0 : Array Value} (hw : ∀ d ∈ tables_1, d.before a0 Z = true) : (Jvm.Cond.declares ({ cls := "com/example/latmere/latmere/spatial/GeometryType", name := "holdsCoordinates", desc := "()Z" } : Jvm.MethodName)).before a0 Z = true := hw _ (List.mem_of_getElem? (i := 30) rfl)
theorem ow31 {Z : State} {a0 : Array Value} (hw : ∀ d ∈ tables_1, d.before a0 Z = true) : (Jvm.Cond.instanceMethod ({ cls := "com/example/latmere/latmere/spatial/GeometryType", name := "holdsCoordinates", desc := "()Z" } : Jvm.MethodName)).before a0 Z = true := hw _ (List.mem_of_getElem? (i := 31) rfl)
theorem ow32 {Z : State} {a0 : Array Value} (hw : ∀ d ∈ tables_1, d.before a0 Z = true) : (Jvm.Cond.selects "com/example/latmere/latmere/spatial/GeometryType" ({ cls := "com/example/latmere/latmere/spatial/GeometryType", name := "holdsCoordinates", desc := "()Z" } : Jvm.MethodName) ({ cls := "com/example/latmere/latmere/spatial/GeometryType", name := "holdsCoordinates", desc := "()Z" } : Jvm.MethodName)).before a0 Z = true := hw _ (List.mem_of_getElem? (i := 32) rfl)
theorem ow33 {Z : State} {a0 : Array Value} (hw : ∀ d ∈ tables_1, d.before a0 Z = true) : (Jvm.Cond.code ({ cls := "com/example/latmere/latmere/spatial/GeometryType", name := "holdsCoordinates", desc := "()Z" } : Jvm.MethodName) prog_35_method_5_code (1 : Nat) (Option.some Jvm.ClassFile.FieldType.boolean)).before a0 Z = true := hw _ (List.mem_of_getElem? (i := 33) rfl)
theorem ow34 {Z : State} {a0 : Array Value} (hw : ∀ d ∈ tables_1, d.before a0 Z = true) : (Jvm.Cond.fieldLink "com/example/latmere/latmere/spatial/GeometryType" (3 : Nat) "com/example/latmere/latmere/spatial/GeometryType" "POINT" "Lcom/example/latmere/latmere/spatial/GeometryType;").before a0 Z = true := hw _ (List.mem_of_getElem? (i := 34) rfl)
theorem ow35 {Z : State} {a0 : Array Value} (hw : ∀ d ∈ tables_1, d.before a0 Z = true) : (Jvm.Cond.fieldLink "com/example/latmere/latmere/spatial/GeometryType" (7 : Nat) "com/example/latmere/latmere/spatial/GeometryType" "LINESTRING" "Lcom/example/latmere/latmere/spatial/GeometryType;").before a0 Z = true := hw _ (List.mem_of_getElem? (i := 35) rfl)
theorem ow36 {Z : State} {a0 : Array Value} (hw : ∀ d ∈ tables_1, d.before a0 Z = true) : (Jvm.Cond.fieldLink "com/example/latmere/latmere/spatial/GeometryType" (25 : Nat) "com/example/latmere/latmere/spatial/GeometryType" "CIRCULARSTRING" "Lcom/example/latmere/latmere/spatial/GeometryType;").before a0 Z = true := hw _ (List.mem_of_getElem? (i := 36) rfl)
theorem own_mod12 (x : Int32) : (x &&& (2147483647 : Int32)) % (12 : Int32) = 0 ∨ (x &&& (2147483647 : Int32)) % (12 : Int32) = 1 ∨ (x &&& (2147483647 : Int32)) % (12 : Int32) = 2 ∨ (x &&& (2147483647 : Int32)) % (12 : Int32) = 3 ∨ (x &&& (2147483647 : Int32)) % (12 : Int32) = 4 ∨ (x &&& (2147483647 : Int32)) % (12 : Int32) = 5 ∨ (x &&& (2147483647 : Int32)) % (12 : Int32) = 6 ∨ (x &&& (2147483647 : Int32)) % (12 : Int32) = 7 ∨ (x &&& (2147483647 : Int32)) % (12 : Int32) = 8 ∨ (x &&& (2147483647 : Int32)) % (12 : Int32) = 9 ∨ (x &&& (2147483647 : Int32)) % (12 : Int32) = 10 ∨ (x &&& (2147483647 : Int32)) % (12 : Int32) = 11 := by
  have h := c_and x 2147483647 (by decide)
  have g := (c_irem (x &&& 2147483647) 12 12 (by decide)).1 h.1
  simp only [← Int32.toInt_inj, show (0 : Int32).toInt = 0 by decide, show (1 : Int32).toInt = 1 by decide, show (2 : Int32).toInt = 2 by decide, show (3 : Int32).toInt = 3 by decide, show (4 : Int32).toInt = 4 by decide, show (5 : Int32).toInt = 5 by decide, show (6 : Int32).toInt = 6 by decide, show (7 : Int32).toInt = 7 by decide, show (8 : Int32).toInt = 8 by decide, show (9 : Int32).toInt = 9 by decide, show (10 : Int32).toInt = 10 by decide, show (11 : Int32).toInt = 11 by decide]
  omega
def own_is (a d0 d1 d2 : Addr) : Int32 := if a = d0 ∨ a = d1 ∨ a = d2 then 1 else 0
theorem own_is_no {a d0 d1 d2 : Addr} (hd0 : a ≠ d0) (hd1 : a ≠ d1) (hd2 : a ≠ d2) : own_is a d0 d1 d2 = 0 := by simp [own_is, hd0, hd1, hd2]
theorem own_is_yes {a d0 d1 d2 : Addr} (h : a = d0 ∨ a = d1 ∨ a = d2) : own_is a d0 d1 d2 = 1 := if_pos h
theorem d1_0 : decode prog_35_method_5_code 0 = .ok (.aload_n 0, 1) := by decide +kernel
theorem d1_1 : decode prog_35_method_5_code 1 = .ok (.getstatic 3, 3) := by decide +kernel
theorem d1_4 : decode prog_35_method_5_code 4 = .ok (.if_acmp .eq 17, 3) := by decide +kernel
theorem d1_7 : decode prog_35_method_5_code 7 = .ok (.aload_n 0, 1) := by decide +kernel
theorem d1_8 : decode prog_35_method_5_code 8 = .ok (.getstatic 7, 3) := by decide +kernel
theorem d1_11 : decode prog_35_method_5_code 11 = .ok (.if_acmp .eq 10, 3) := by decide +kernel
theorem d1_14 : decode prog_35_method_5_code 14 = .ok (.aload_n 0, 1) := by decide +kernel
theorem d1_15 : decode prog_35_method_5_code 15 = .ok (.getstatic 25, 3) := by decide +kernel
theorem d1_18 : decode prog_35_method_5_code 18 = .ok (.if_acmp .ne 7, 3) := by decide +kernel
theorem d1_21 : decode prog_35_method_5_code 21 = .ok (.iconst 1, 1) := by decide +kernel
theorem d1_22 : decode prog_35_method_5_code 22 = .ok (.goto 4, 3) := by decide +kernel
theorem d1_25 : decode prog_35_method_5_code 25 = .ok (.iconst 0, 1) := by decide +kernel
theorem d1_26 : decode prog_35_method_5_code 26 = .ok (.ireturn, 1) := by decide +kernel
theorem pn_1 : plainName "com/example/latmere/latmere/spatial/GeometryType" = true := by first | (simp [plainName, overriddenIn]; done) | decide +kernel
theorem ef_rm2 (m : MethodId) (a : Addr) : entryFrame m #[(.ref a)] 1 = mkF m 0 #[.val (.ref a)] [] := by first | (simp [entryFrame, mkF, argsToLocals, Value.category]; done) | rfl | (rcases ref_cases hrf with rfl | ⟨q, rfl⟩ <;> rfl)
def Q_rm2 (Z : State) (a : Addr) (c0 : Addr) (c1 : Addr) (c7 : Addr) (h0 : Heap) (n0 : Nat) (v : Option Value) (h : Heap) (L : List Loc) : Prop := v = some (.int (own_is a c0 c1 c7)) ∧ Fr n0 L ∧ h = h0
set_option maxRecDepth 65536 in
set_option maxHeartbeats 40000000 in
theorem rm2 (l : Launch) (Z : State) (a0 : Array Value) (hw : ∀ d ∈ tables_1, d.before a0 Z = true) (ws : List Jvm.Cond) (a : Addr) (c0 : Addr) (c1 : Addr) (c7 : Addr) (h0 : Heap) (n0 : Nat) (O0 : Old Z n0 h0) (S_c0 : Sta Z Z.heap "com/example/latmere/latmere/spatial/GeometryType" "POINT" "Lcom/example/latmere/latmere/spatial/GeometryType;" (.ref c0)) (S_c1 : Sta Z Z.heap "com/example/latmere/latmere/spatial/GeometryType" "LINESTRING" "Lcom/example/latmere/latmere/spatial/GeometryType;" (.ref c1)) (S_c7 : Sta Z Z.heap "com/example/latmere/latmere/spatial/GeometryType" "CIRCULARSTRING" "Lcom/example/latmere/latmere/spatial/GeometryType;" (.ref c7)) :
    MetFree l oM0 (head1 (Jvm.Cond.code oM0 prog_35_method_5_code 1 (some .boolean) :: ws) ({ frames := 0, cells := 0, slots := 0, locals := 0 } : Room)) (fun aq_ U => aq_ = #[(.ref a)] ∧ Z.Warmed39 U.vm ∧ U.heap = h0) (fun _ _ _ _ _ => True) (fun _ U o U' => ∃ v L, o = .returned v ∧ Q_rm2 Z a c0 c1 c7 h0 n0 v U'.heap L ∧ FrameEnd U o U' L ({ frames := 0, cells := 0, slots := 0, locals := 0 } : Room).cells ({ frames := 0, cells := 0, slots := 0, locals := 0 } : Room).slots) := by
  refine MetFree.of_bodySF (plainFor_of_name pn_1) hisR ?_
  intro p e s m args below meth c s₁ Bd hml0 hP hK
  obtain ⟨rfl, hZ, hh⟩ := hP
  have hx := Bd.exec
  have hby := Bd.bytes
  have hml : c.maxLocals = 1 := hml0
  have hown : s.vm.findClass "com/example/latmere/latmere/spatial/GeometryType" = some m.cls := findClass_of_methodNamed Bd.named
  have hnm := (name_of_methodNamed Bd.named Bd.method).1
  have X0 : Stand p l e ({ frames := 0, cells := 0, slots := 0, locals := 0 } : Room) s m #[(.ref a)] below meth c s₁ [] 0 0 := Stand.of_body Bd
  have e0 : s₁.heap = h0 := by rw [← hh, Bd.state]; rfl
  have N0 := Fr.nil n0
  show own_Ends p.tables e below (own_P s (Q_rm2 Z a c0 c1 c7 h0 n0) ({ frames := 0, cells := 0, slots := 0, locals := 0 } : Room).cells ({ frames := 0, cells := 0, slots := 0, locals := 0 } : Room).slots) _
  refine own_cast (ef_rm2 m a) ?_
  show own_Ends _ _ _ _ (s₁.setTop (mkF m 0 #[.val (.ref a)] []))
  refine own_to (fun _ kont => XS.aloadN X0.here hx rfl (hb hby d1_0) rfl rfl kont) ?_
  show own_Ends _ _ _ _ (s₁.setTop (mkF m 1 #[.val (.ref a)] [(.ref a)]))
  obtain ⟨T1, X1, e1, st1⟩ := getS2 X0 hx hZ hown (host := "") (Or.inl (ow34 hw)) Via.refl e0 (S_c0.ext O0.2) (g := (mkF m 1 #[.val (.ref a)] [(.ref a)])) rfl (hb hby d1_1)
  refine own_to st1 ?_
  show own_Ends _ _ _ _ (T1.setTop (mkF m 4 #[.val (.ref a)] [(.ref c0), (.ref a)]))
  by_cases hc4_2 : a = c0
  · -- pc 4
    refine own_to (fun _ kont => Jvm.RoadKit.acmp (g := (mkF m 4 #[.val (.ref a)] [(.ref c0), (.ref a)])) X1 hx rfl rfl rfl (pc0 := 4) (pc' := 21) (same := true) rfl (hb hby d1_4) rfl (decide_eq_true (congrArg Value.ref hc4_2)) (by decide) (by decide) kont) ?_
    show own_Ends _ _ _ _ (T1.setTop (mkF m 21 #[.val (.ref a)] []))
    refine own_to (fun _ kont => XS.iconst X1.here hx rfl (hb hby d1_21) kont) ?_
    show own_Ends _ _ _ _ (T1.setTop (mkF m 22 #[.val (.ref a)] [(.int 1)]))
    refine own_to (fun _ kont => XS.goto X1.here hx rfl (pc0 := 22) (pc' := 26) rfl (hb hby d1_22) (by decide) (by decide) kont) ?_
    show own_Ends _ _ _ _ (T1.setTop (mkF m 26 #[.val (.ref a)] [(.int 1)]))
    refine own_leave X1 (v := some (.int (1 : Int32))) (fun h => by rw [Bd.returns] at h; cases h) ?_ (by decide) (by decide) (fun fs hr => retN X1 hx (t := .boolean) Bd.returns (by simp) (hb hby d1_26) hr)
    show Q_rm2 Z a c0 c1 c7 h0 n0 _ T1.heap _
    rw [e1]
    exact ⟨by simp [own_is, *], N0, rfl⟩
  · -- pc 4
    refine own_to (fun _ kont => Jvm.RoadKit.acmp (g := (mkF m 4 #[.val (.ref a)] [(.ref c0), (.ref a)])) X1 hx rfl rfl rfl (pc0 := 4) (pc' := 7) (same := false) rfl (hb hby d1_4) rfl (decide_eq_false fun q => hc4_2 (Value.ref.inj q)) (by decide) (by decide) kont) ?_
    show own_Ends _ _ _ _ (T1.setTop (mkF m 7 #[.val (.ref a)] []))
    refine own_to (fun _ kont => XS.aloadN X1.here hx rfl (hb hby d1_7) rfl rfl kont) ?_
    show own_Ends _ _ _ _ (T1.setTop (mkF m 8 #[.val (.ref a)] [(.ref a)]))
    obtain ⟨T3, X3, e3, st3⟩ := getS2 X1 hx hZ hown (host := "") (Or.inl (ow35 hw)) Via.refl e1 (S_c1.ext O0.2) (g := (mkF m 8 #[.val (.ref a)] [(.ref a)])) rfl (hb hby d1_8)
    refine own_to st3 ?_
    show own_Ends _ _ _ _ (T3.setTop (mkF m 11 #[.val (.ref a)] [(.ref c1), (.ref a)]))
    by_cases hc11_4 : a = c1
    · -- pc 11
      refine own_to (fun _ kont => Jvm.RoadKit.acmp (g := (mkF m 11 #[.val (.ref a)] [(.ref c1), (.ref a)])) X3 hx rfl rfl rfl (pc0 := 11) (pc' := 21) (same := true) rfl (hb hby d1_11) rfl (decide_eq_true (congrArg Value.ref hc11_4)) (by decide) (by decide) kont) ?_
      show own_Ends _ _ _ _ (T3.setTop (mkF m 21 #[.val (.ref a)] []))
      refine own_to (fun _ kont => XS.iconst X3.here hx rfl (hb hby d1_21) kont) ?_
      show own_Ends _ _ _ _ (T3.setTop (mkF m 22 #[.val (.ref a)] [(.int 1)]))
      refine own_to (fun _ kont => XS.goto X3.here hx rfl (pc0 := 22) (pc' := 26) rfl (hb hby d1_22) (by decide) (by decide) kont) ?_
      show own_Ends _ _ _ _ (T3.setTop (mkF m 26 #[.val (.ref a)] [(.int 1)]))
      refine own_leave X3 (v := some (.int (1 : Int32))) (fun h => by rw [Bd.returns] at h; cases h) ?_ (by decide) (by decide) (fun fs hr => retN X3 hx (t := .boolean) Bd.returns (by simp) (hb hby d1_26) hr)
      show Q_rm2 Z a c0 c1 c7 h0 n0 _ T3.heap _
      rw [e3]
      exact ⟨by simp [own_is, *], N0, rfl⟩
    · -- pc 11
      refine own_to (fun _ kont => Jvm.RoadKit.acmp (g := (mkF m 11 #[.val (.ref a)] [(.ref c1), (.ref a)])) X3 hx rfl rfl rfl (pc0 := 11) (pc' := 14) (same := false) rfl (hb hby d1_11) rfl (decide_eq_false fun q => hc11_4 (Value.ref.inj q)) (by decide) (by decide) kont) ?_
      show own_Ends _ _ _ _ (T3.setTop (mkF m 14 #[.val (.ref a)] []))
      refine own_to (fun _ kont => XS.aloadN X3.here hx rfl (hb hby d1_14) rfl rfl kont) ?_
      show own_Ends _ _ _ _ (T3.setTop (mkF m 15 #[.val (.ref a)] [(.ref a)]))
      obtain ⟨T5, X5, e5, st5⟩ := getS2 X3 hx hZ hown (host := "") (Or.inl (ow36 hw)) Via.refl e3 (S_c7.ext O0.2) (g := (mkF m 15 #[.val (.ref a)] [(.ref a)])) rfl (hb hby d1_15)
      refine own_to st5 ?_
      show own_Ends _ _ _ _ (T5.setTop (mkF m 18 #[.val (.ref a)] [(.ref c7), (.ref a)]))
      by_cases hc18_6 : a = c7
      · -- pc 18
        refine own_to (fun _ kont => Jvm.RoadKit.acmp (g := (mkF m 18 #[.val (.ref a)] [(.ref c7), (.ref a)])) X5 hx rfl rfl rfl (pc0 := 18) (pc' := 21) (same := true) rfl (hb hby d1_18) rfl (decide_eq_true (congrArg Value.ref hc18_6)) (by decide) (by decide) kont) ?_
        show own_Ends _ _ _ _ (T5.setTop (mkF m 21 #[.val (.ref a)] []))
        refine own_to (fun _ kont => XS.iconst X5.here hx rfl (hb hby d1_21) kont) ?_
        show own_Ends _ _ _ _ (T5.setTop (mkF m 22 #[.val (.ref a)] [(.int 1)]))
        refine own_to (fun _ kont => XS.goto X5.here hx rfl (pc0 := 22) (pc' := 26) rfl (hb hby d1_22) (by decide) (by decide) kont) ?_
        show own_Ends _ _ _ _ (T5.setTop (mkF m 26 #[.val (.ref a)] [(.int 1)]))
        refine own_leave X5 (v := some (.int (1 : Int32))) (fun h => by rw [Bd.returns] at h; cases h) ?_ (by decide) (by decide) (fun fs hr => retN X5 hx (t := .boolean) Bd.returns (by simp) (hb hby d1_26) hr)
        show Q_rm2 Z a c0 c1 c7 h0 n0 _ T5.heap _
        rw [e5]
        exact ⟨by simp [own_is, *], N0, rfl⟩
      · -- pc 18
        refine own_to (fun _ kont => Jvm.RoadKit.acmp (g := (mkF m 18 #[.val (.ref a)] [(.ref c7), (.ref a)])) X5 hx rfl rfl rfl (pc0 := 18) (pc' := 25) (same := false) rfl (hb hby d1_18) rfl (decide_eq_false fun q => hc18_6 (Value.ref.inj q)) (by decide) (by decide) kont) ?_
        show own_Ends _ _ _ _ (T5.setTop (mkF m 25 #[.val (.ref a)] []))
        refine own_to (fun _ kont => XS.iconst X5.here hx rfl (hb hby d1_25) kont) ?_
        show own_Ends _ _ _ _ (T5.setTop (mkF m 26 #[.val (.ref a)] [(.int 0)]))
        refine own_leave X5 (v := some (.int (0 : Int32))) (fun h => by rw [Bd.returns] at h; cases h) ?_ (by decide) (by decide) (fun fs hr => retN X5 hx (t := .boolean) Bd.returns (by simp) (hb hby d1_26) hr)
        show Q_rm2 Z a c0 c1 c7 h0 n0 _ T5.heap _
        rw [e5]
        exact ⟨by simp [own_is, *], N0, rfl⟩
theorem pn_0 : plainName "com/example/latmere/latmere/spatial/GeometryTypeHoldsCoordinatesPinLaw" = true := by first | (simp [plainName, overriddenIn]; done) | decide +kernel
theorem pd_0 : parseMethodDescriptor "()Z" = some ⟨[], some .boolean⟩ := by decide +kernel
theorem ef_rm0 (m : MethodId) (z1 : Int32) : entryFrame m #[(.int z1)] maxLocals = mkF m 0 #[.val (.int z1), .unset, .unset, .unset] [] := by first | (simp [entryFrame, mkF, argsToLocals, Value.category, maxLocals]; done) | rfl | (rcases ref_cases hrf with rfl | ⟨q, rfl⟩ <;> rfl)
def Q_rm0 (Z : State) (z1 : Int32) (c0 : Addr) (c1 : Addr) (c2 : Addr) (c3 : Addr) (c4 : Addr) (c5 : Addr) (c6 : Addr) (c7 : Addr) (c8 : Addr) (c9 : Addr) (c10 : Addr) (c11 : Addr) (h0 : Heap) (n0 : Nat) (v : Option Value) (h : Heap) (L : List Loc) : Prop := v = some (.int 1) ∧ Fr n0 L
set_option maxRecDepth 65536 in
set_option maxHeartbeats 40000000 in
theorem rm0 (l : Launch) (Z : State) (a0 : Array Value) (hw : ∀ d ∈ tables_1, d.before a0 Z = true) (ws : List Jvm.Cond) (z1 : Int32) (c0 : Addr) (c1 : Addr) (c2 : Addr) (c3 : Addr) (c4 : Addr) (c5 : Addr) (c6 : Addr) (c7 : Addr) (c8 : Addr) (c9 : Addr) (c10 : Addr) (c11 : Addr) (h0 : Heap) (n0 : Nat) (O0 : Old Z n0 h0) (S_c0 : Sta Z Z.heap "com/example/latmere/latmere/spatial/GeometryType" "POINT" "Lcom/example/latmere/latmere/spatial/GeometryType;" (.ref c0)) (S_c1 : Sta Z Z.heap "com/example/latmere/latmere/spatial/GeometryType" "LINESTRING" "Lcom/example/latmere/latmere/spatial/GeometryType;" (.ref c1)) (S_c2 : Sta Z Z.heap "com/example/latmere/latmere/spatial/GeometryType" "POLYGON" "Lcom/example/latmere/latmere/spatial/GeometryType;" (.ref c2)) (S_c3 : Sta Z Z.heap "com/example/latmere/latmere/spatial/GeometryType" "MULTIPOINT" "Lcom/example/latmere/latmere/spatial/GeometryType;" (.ref c3)) (S_c4 : Sta Z Z.heap "com/example/latmere/latmere/spatial/GeometryType" "MULTILINESTRING" "Lcom/example/latmere/latmere/spatial/GeometryType;" (.ref c4)) (S_c5 : Sta Z Z.heap "com/example/latmere/latmere/spatial/GeometryType" "MULTIPOLYGON" "Lcom/example/latmere/latmere/spatial/GeometryType;" (.ref c5)) (S_c6 : Sta Z Z.heap "com/example/latmere/latmere/spatial/GeometryType" "GEOMETRYCOLLECTION" "Lcom/example/latmere/latmere/spatial/GeometryType;" (.ref c6)) (S_c7 : Sta Z Z.heap "com/example/latmere/latmere/spatial/GeometryType" "CIRCULARSTRING" "Lcom/example/latmere/latmere/spatial/GeometryType;" (.ref c7)) (S_c8 : Sta Z Z.heap "com/example/latmere/latmere/spatial/GeometryType" "COMPOUNDCURVE" "Lcom/example/latmere/latmere/spatial/GeometryType;" (.ref c8)) (S_c9 : Sta Z Z.heap "com/example/latmere/latmere/spatial/GeometryType" "CURVEPOLYGON" "Lcom/example/latmere/latmere/spatial/GeometryType;" (.ref c9)) (S_c10 : Sta Z Z.heap "com/example/latmere/latmere/spatial/GeometryType" "MULTICURVE" "Lcom/example/latmere/latmere/spatial/GeometryType;" (.ref c10)) (S_c11 : Sta Z Z.heap "com/example/latmere/latmere/spatial/GeometryType" "MULTISURFACE" "Lcom/example/latmere/latmere/spatial/GeometryType;" (.ref c11)) (E_c0 : Exa Z Z.heap c0 "com/example/latmere/latmere/spatial/GeometryType") (E_c1 : Exa Z Z.heap c1 "com/example/latmere/latmere/spatial/GeometryType") (E_c2 : Exa Z Z.heap c2 "com/example/latmere/latmere/spatial/GeometryType") (E_c3 : Exa Z Z.heap c3 "com/example/latmere/latmere/spatial/GeometryType") (E_c4 : Exa Z Z.heap c4 "com/example/latmere/latmere/spatial/GeometryType") (E_c5 : Exa Z Z.heap c5 "com/example/latmere/latmere/spatial/GeometryType") (E_c6 : Exa Z Z.heap c6 "com/example/latmere/latmere/spatial/GeometryType") (E_c7 : Exa Z Z.heap c7 "com/example/latmere/latmere/spatial/GeometryType") (E_c8 : Exa Z Z.heap c8 "com/example/latmere/latmere/spatial/GeometryType") (E_c9 : Exa Z Z.heap c9 "com/example/latmere/latmere/spatial/GeometryType") (E_c10 : Exa Z Z.heap c10 "com/example/latmere/latmere/spatial/GeometryType") (E_c11 : Exa Z Z.heap c11 "com/example/latmere/latmere/spatial/GeometryType") (F_c0 : Fld Z Z.heap c0 "java/lang/Enum" "ordinal" "I" (.int (0 : Int32))) (F_c1 : Fld Z Z.heap c1 "java/lang/Enum" "ordinal" "I" (.int (1 : Int32))) (F_c2 : Fld Z Z.heap c2 "java/lang/Enum" "ordinal" "I" (.int (2 : Int32))) (F_c3 : Fld Z Z.heap c3 "java/lang/Enum" "ordinal" "I" (.int (3 : Int32))) (F_c4 : Fld Z Z.heap c4 "java/lang/Enum" "ordinal" "I" (.int (4 : Int32))) (F_c5 : Fld Z Z.heap c5 "java/lang/Enum" "ordinal" "I" (.int (5 : Int32))) (F_c6 : Fld Z Z.heap c6 "java/lang/Enum" "ordinal" "I" (.int (6 : Int32))) (F_c7 : Fld Z Z.heap c7 "java/lang/Enum" "ordinal" "I" (.int (7 : Int32))) (F_c8 : Fld Z Z.heap c8 "java/lang/Enum" "ordinal" "I" (.int (8 : Int32))) (F_c9 : Fld Z Z.heap c9 "java/lang/Enum" "ordinal" "I" (.int (9 : Int32))) (F_c10 : Fld Z Z.heap c10 "java/lang/Enum" "ordinal" "I" (.int (10 : Int32))) (F_c11 : Fld Z Z.heap c11 "java/lang/Enum" "ordinal" "I" (.int (11 : Int32))) :
    MetFree l x (head1 (Jvm.Cond.code x code maxLocals ret :: ws) room_1) (fun aq_ U => aq_ = #[(.int z1)] ∧ Z.Warmed39 U.vm ∧ U.heap = h0) (fun _ _ _ _ _ => True) (fun _ U o U' => ∃ v L, o = .returned v ∧ Q_rm0 Z z1 c0 c1 c2 c3 c4 c5 c6 c7 c8 c9 c10 c11 h0 n0 v U'.heap L ∧ FrameEnd U o U' L 16 128) := by
  refine MetFree.of_bodySF (plainFor_of_name pn_0) hisR ?_
  intro p e s m args below meth c s₁ Bd hml0 hP hK
  obtain ⟨rfl, hZ, hh⟩ := hP
  have hx := Bd.exec
  have hby := Bd.bytes
  have hml : c.maxLocals = 4 := hml0
  have hown : s.vm.findClass "com/example/latmere/latmere/spatial/GeometryTypeHoldsCoordinatesPinLaw" = some m.cls := findClass_of_methodNamed Bd.named
  have hnm := (name_of_methodNamed Bd.named Bd.method).1
  have X0 : Stand p l e room_1 s m #[(.int z1)] below meth c s₁ [] 0 0 := Stand.of_body Bd
  have e0 : s₁.heap = h0 := by rw [← hh, Bd.state]; rfl
  have N0 := Fr.nil n0
  show own_Ends p.tables e below (own_P s (Q_rm0 Z z1 c0 c1 c2 c3 c4 c5 c6 c7 c8 c9 c10 c11 h0 n0) 16 128) _
  refine own_cast (ef_rm0 m z1) ?_
  show own_Ends _ _ _ _ (s₁.setTop (mkF m 0 #[.val (.int z1), .unset, .unset, .unset] []))
  refine own_to (fun _ kont => XS.bipush X0.here hx rfl (hb hby at_0) kont) ?_
  show own_Ends _ _ _ _ (s₁.setTop (mkF m 2 #[.val (.int z1), .unset, .unset, .unset] [(.int 12)]))
  obtain ⟨T1, h1, k1, X1, e1, E1, A1, V1, st1⟩ := newR X0 hx hZ hown (ow0 hw) (ow1 hw) e0 (g := (mkF m 2 #[.val (.int z1), .unset, .unset, .unset] [(.int (12 : Int32))])) rfl (hb hby at_2) rfl (by decide) (cap := 12) (by decide) (by decide) (by decide) (by decide)
  obtain ⟨b1, g1⟩ : ∃ z, z = h0.size := ⟨_, rfl⟩
  rw [← g1] at A1 st1
  have g_b1 : n0 ≤ b1 := Nat.le_trans (own_old_le O0) (Nat.le_of_eq g1.symm)
  refine own_to st1 ?_
  have O1 := O0.ext E1
  have Vn1 : Arv Z h1 b1 k1 (.object "com/example/latmere/latmere/spatial/GeometryType") (12 : Int32) [.null, .null, .null, .null, .null, .null, .null, .null, .null, .null, .null, .null] .null := (Arv.new A1 (by decide)).pad (pad_rep [] .null 12)
  show own_Ends _ _ _ _ (T1.setTop (mkF m 5 #[.val (.int z1), .unset, .unset, .unset] [(.ref b1)]))
  refine own_to (fun _ kont => XS.dup X1.here hx rfl (hb hby at_5) rfl rfl kont) ?_
  show own_Ends _ _ _ _ (T1.setTop (mkF m 6 #[.val (.int z1), .unset, .unset, .unset] [(.ref b1), (.ref b1)]))
  refine own_to (fun _ kont => XS.iconst X1.here hx rfl (hb hby at_6) kont) ?_
  show own_Ends _ _ _ _ (T1.setTop (mkF m 7 #[.val (.int z1), .unset, .unset, .unset] [(.int 0), (.ref b1), (.ref b1)]))
  obtain ⟨T2, X2, e2, st2⟩ := getS2 X1 hx hZ hown (host := "") (Or.inl (ow2 hw)) Via.refl e1 (S_c0.ext O1.2) (g := (mkF m 7 #[.val (.int z1), .unset, .unset, .unset] [(.int (0 : Int32)), (.ref b1), (.ref b1)])) rfl (hb hby at_7)
  refine own_to st2 ?_
  show own_Ends _ _ _ _ (T2.setTop (mkF m 10 #[.val (.int z1), .unset, .unset, .unset] [(.ref c0), (.int 0), (.ref b1), (.ref b1)]))
  obtain ⟨cl3, Ar3, q3, S3, M3, H3, G3⟩ := Vn1
  have hin3 : ¬ ((0 : Int32) < 0 ∨ cl3.slots.size ≤ ((0 : Int32)).toNatClampNeg) := inb_of S3 ⟨by decide, by decide⟩
  obtain ⟨T3, h3, X3, e3, W3, st3⟩ := stR X2 hx hZ e2 Ar3 (j := (0 : Int32)) hin3 rfl (Sto.ofV Ar3 q3 V1 (Ins.self (E_c0.ext O1.2))) (g := (mkF m 10 #[.val (.int z1), .unset, .unset, .unset] [(.ref c0), (.int (0 : Int32)), (.ref b1), (.ref b1)])) rfl rfl (hb hby at_10)
  have Vs3 : Arv Z h3 b1 k1 (.object "com/example/latmere/latmere/spatial/GeometryType") (12 : Int32) [(.ref c0), .null, .null, .null, .null, .null, .null, .null, .null, .null, .null, .null] .null := Arv.set Ar3 q3 S3 M3 H3 G3 rfl W3 0 rfl (own_lt rfl)
  refine own_to st3 ?_
  have O3 := O1.wr W3 g_b1
  have N3 := Fr.snoc X3 N0 g_b1
  show own_Ends _ _ _ _ (T3.setTop (mkF m 11 #[.val (.int z1), .unset, .unset, .unset] [(.ref b1)]))
  refine own_to (fun _ kont => XS.dup X3.here hx rfl (hb hby at_11) rfl rfl kont) ?_
  show own_Ends _ _ _ _ (T3.setTop (mkF m 12 #[.val (.int z1), .unset, .unset, .unset] [(.ref b1), (.ref b1)]))
  refine own_to (fun _ kont => XS.iconst X3.here hx rfl (hb hby at_12) kont) ?_
  show own_Ends _ _ _ _ (T3.setTop (mkF m 13 #[.val (.int z1), .unset, .unset, .unset] [(.int 1), (.ref b1), (.ref b1)]))
  obtain ⟨T4, X4, e4, st4⟩ := getS2 X3 hx hZ hown (host := "") (Or.inl (ow6 hw)) Via.refl e3 (S_c1.ext O3.2) (g := (mkF m 13 #[.val (.int z1), .unset, .unset, .unset] [(.int (1 : Int32)), (.ref b1), (.ref b1)])) rfl (hb hby at_13)
  refine own_to st4 ?_
  show own_Ends _ _ _ _ (T4.setTop (mkF m 16 #[.val (.int z1), .unset, .unset, .unset] [(.ref c1), (.int 1), (.ref b1), (.ref b1)]))
  obtain ⟨cl5, Ar5, q5, S5, M5, H5, G5⟩ := Vs3
  have hin5 : ¬ ((1 : Int32) < 0 ∨ cl5.slots.size ≤ ((1 : Int32)).toNatClampNeg) := inb_of S5 ⟨by decide, by decide⟩
  obtain ⟨T5, h5, X5, e5, W5, st5⟩ := stR X4 hx hZ e4 Ar5 (j := (1 : Int32)) hin5 rfl (Sto.ofV Ar5 q5 V1 (Ins.self (E_c1.ext O3.2))) (g := (mkF m 16 #[.val (.int z1), .unset, .unset, .unset] [(.ref c1), (.int (1 : Int32)), (.ref b1), (.ref b1)])) rfl rfl (hb hby at_16)
  have Vs5 : Arv Z h5 b1 k1 (.object "com/example/latmere/latmere/spatial/GeometryType") (12 : Int32) [(.ref c0), (.ref c1), .null, .null, .null, .null, .null, .null, .null, .null, .null, .null] .null := Arv.set Ar5 q5 S5 M5 H5 G5 rfl W5 1 rfl (own_lt rfl)
  refine own_to st5 ?_
  have O5 := O3.wr W5 g_b1
  have N5 := Fr.snoc X5 N3 g_b1
  show own_Ends _ _ _ _ (T5.setTop (mkF m 17 #[.val (.int z1), .unset, .unset, .unset] [(.ref b1)]))
  refine own_to (fun _ kont => XS.dup X5.here hx rfl (hb hby at_17) rfl rfl kont) ?_
  show own_Ends _ _ _ _ (T5.setTop (mkF m 18 #[.val (.int z1), .unset, .unset, .unset] [(.ref b1), (.ref b1)]))
  refine own_to (fun _ kont => XS.iconst X5.here hx rfl (hb hby at_18) kont) ?_
  show own_Ends _ _ _ _ (T5.setTop (mkF m 19 #[.val (.int z1), .unset, .unset, .unset] [(.int 2), (.ref b1), (.ref b1)]))
  obtain ⟨T6, X6, e6, st6⟩ := getS2 X5 hx hZ hown (host := "") (Or.inl (ow8 hw)) Via.refl e5 (S_c2.ext O5.2) (g := (mkF m 19 #[.val (.int z1), .unset, .unset, .unset] [(.int (2 : Int32)), (.ref b1), (.ref b1)])) rfl (hb hby at_19)
  refine own_to st6 ?_
  show own_Ends _ _ _ _ (T6.setTop (mkF m 22 #[.val (.int z1), .unset, .unset, .unset] [(.ref c2), (.int 2), (.ref b1), (.ref b1)]))
  obtain ⟨cl7, Ar7, q7, S7, M7, H7, G7⟩ := Vs5
  have hin7 : ¬ ((2 : Int32) < 0 ∨ cl7.slots.size ≤ ((2 : Int32)).toNatClampNeg) := inb_of S7 ⟨by decide, by decide⟩
  obtain ⟨T7, h7, X7, e7, W7, st7⟩ := stR X6 hx hZ e6 Ar7 (j := (2 : Int32)) hin7 rfl (Sto.ofV Ar7 q7 V1 (Ins.self (E_c2.ext O5.2))) (g := (mkF m 22 #[.val (.int z1), .unset, .unset, .unset] [(.ref c2), (.int (2 : Int32)), (.ref b1), (.ref b1)])) rfl rfl (hb hby at_22)
  have Vs7 : Arv Z h7 b1 k1 (.object "com/example/latmere/latmere/spatial/GeometryType") (12 : Int32) [(.ref c0), (.ref c1), (.ref c2), .null, .null, .null, .null, .null, .null, .null, .null, .null] .null := Arv.set Ar7 q7 S7 M7 H7 G7 rfl W7 2 rfl (own_lt rfl)
  refine own_to st7 ?_
  have O7 := O5.wr W7 g_b1
  have N7 := Fr.snoc X7 N5 g_b1
  show own_Ends _ _ _ _ (T7.setTop (mkF m 23 #[.val (.int z1), .unset, .unset, .unset] [(.ref b1)]))
  refine own_to (fun _ kont => XS.dup X7.here hx rfl (hb hby at_23) rfl rfl kont) ?_
  show own_Ends _ _ _ _ (T7.setTop (mkF m 24 #[.val (.int z1), .unset, .unset, .unset] [(.ref b1), (.ref b1)]))
  refine own_to (fun _ kont => XS.iconst X7.here hx rfl (hb hby at_24) kont) ?_
  show own_Ends _ _ _ _ (T7.setTop (mkF m 25 #[.val (.int z1), .unset, .unset, .unset] [(.int 3), (.ref b1), (.ref b1)]))
  obtain ⟨T8, X8, e8, st8⟩ := getS2 X7 hx hZ hown (host := "") (Or.inl (ow10 hw)) Via.refl e7 (S_c3.ext O7.2) (g := (mkF m 25 #[.val (.int z1), .unset, .unset, .unset] [(.int (3 : Int32)), (.ref b1), (.ref b1)])) rfl (hb hby at_25)
  refine own_to st8 ?_
  show own_Ends _ _ _ _ (T8.setTop (mkF m 28 #[.val (.int z1), .unset, .unset, .unset] [(.ref c3), (.int 3), (.ref b1), (.ref b1)]))
  obtain ⟨cl9, Ar9, q9, S9, M9, H9, G9⟩ := Vs7
  have hin9 : ¬ ((3 : Int32) < 0 ∨ cl9.slots.size ≤ ((3 : Int32)).toNatClampNeg) := inb_of S9 ⟨by decide, by decide⟩
  obtain ⟨T9, h9, X9, e9, W9, st9⟩ := stR X8 hx hZ e8 Ar9 (j := (3 : Int32)) hin9 rfl (Sto.ofV Ar9 q9 V1 (Ins.self (E_c3.ext O7.2))) (g := (mkF m 28 #[.val (.int z1), .unset, .unset, .unset] [(.ref c3), (.int (3 : Int32)), (.ref b1), (.ref b1)])) rfl rfl (hb hby at_28)
  have Vs9 : Arv Z h9 b1 k1 (.object "com/example/latmere/latmere/spatial/GeometryType") (12 : Int32) [(.ref c0), (.ref c1), (.ref c2), (.ref c3), .null, .null, .null, .null, .null, .null, .null, .null] .null := Arv.set Ar9 q9 S9 M9 H9 G9 rfl W9 3 rfl (own_lt rfl)
  refine own_to st9 ?_
  have O9 := O7.wr W9 g_b1
  have N9 := Fr.snoc X9 N7 g_b1
  show own_Ends _ _ _ _ (T9.setTop (mkF m 29 #[.val (.int z1), .unset, .unset, .unset] [(.ref b1)]))
  refine own_to (fun _ kont => XS.dup X9.here hx rfl (hb hby at_29) rfl rfl kont) ?_
  show own_Ends _ _ _ _ (T9.setTop (mkF m 30 #[.val (.int z1), .unset, .unset, .unset] [(.ref b1), (.ref b1)]))
  refine own_to (fun _ kont => XS.iconst X9.here hx rfl (hb hby at_30) kont) ?_
  show own_Ends _ _ _ _ (T9.setTop (mkF m 31 #[.val (.int z1), .unset, .unset, .unset] [(.int 4), (.ref b1), (.ref b1)]))
  obtain ⟨T10, X10, e10, st10⟩ := getS2 X9 hx hZ hown (host := "") (Or.inl (ow12 hw)) Via.refl e9 (S_c4.ext O9.2) (g := (mkF m 31 #[.val (.int z1), .unset, .unset, .unset] [(.int (4 : Int32)), (.ref b1), (.ref b1)])) rfl (hb hby at_31)
  refine own_to st10 ?_
  show own_Ends _ _ _ _ (T10.setTop (mkF m 34 #[.val (.int z1), .unset, .unset, .unset] [(.ref c4), (.int 4), (.ref b1), (.ref b1)]))
  obtain ⟨cl11, Ar11, q11, S11, M11, H11, G11⟩ := Vs9
  have hin11 : ¬ ((4 : Int32) < 0 ∨ cl11.slots.size ≤ ((4 : Int32)).toNatClampNeg) := inb_of S11 ⟨by decide, by decide⟩
  obtain ⟨T11, h11, X11, e11, W11, st11⟩ := stR X10 hx hZ e10 Ar11 (j := (4 : Int32)) hin11 rfl (Sto.ofV Ar11 q11 V1 (Ins.self (E_c4.ext O9.2))) (g := (mkF m 34 #[.val (.int z1), .unset, .unset, .unset] [(.ref c4), (.int (4 : Int32)), (.ref b1), (.ref b1)])) rfl rfl (hb hby at_34)
  have Vs11 : Arv Z h11 b1 k1 (.object "com/example/latmere/latmere/spatial/GeometryType") (12 : Int32) [(.ref c0), (.ref c1), (.ref c2), (.ref c3), (.ref c4), .null, .null, .null, .null, .null, .null, .null] .null := Arv.set Ar11 q11 S11 M11 H11 G11 rfl W11 4 rfl (own_lt rfl)
  refine own_to st11 ?_
  have O11 := O9.wr W11 g_b1
  have N11 := Fr.snoc X11 N9 g_b1
  show own_Ends _ _ _ _ (T11.setTop (mkF m 35 #[.val (.int z1), .unset, .unset, .unset] [(.ref b1)]))
  refine own_to (fun _ kont => XS.dup X11.here hx rfl (hb hby at_35) rfl rfl kont) ?_
  show own_Ends _ _ _ _ (T11.setTop (mkF m 36 #[.val (.int z1), .unset, .unset, .unset] [(.ref b1), (.ref b1)]))
  refine own_to (fun _ kont => XS.iconst X11.here hx rfl (hb hby at_36) kont) ?_
  show own_Ends _ _ _ _ (T11.setTop (mkF m 37 #[.val (.int z1), .unset, .unset, .unset] [(.int 5), (.ref b1), (.ref b1)]))
  obtain ⟨T12, X12, e12, st12⟩ := getS2 X11 hx hZ hown (host := "") (Or.inl (ow14 hw)) Via.refl e11 (S_c5.ext O11.2) (g := (mkF m 37 #[.val (.int z1), .unset, .unset, .unset] [(.int (5 : Int32)), (.ref b1), (.ref b1)])) rfl (hb hby at_37)
  refine own_to st12 ?_
  show own_Ends _ _ _ _ (T12.setTop (mkF m 40 #[.val (.int z1), .unset, .unset, .unset] [(.ref c5), (.int 5), (.ref b1), (.ref b1)]))
  obtain ⟨cl13, Ar13, q13, S13, M13, H13, G13⟩ := Vs11
  have hin13 : ¬ ((5 : Int32) < 0 ∨ cl13.slots.size ≤ ((5 : Int32)).toNatClampNeg) := inb_of S13 ⟨by decide, by decide⟩
  obtain ⟨T13, h13, X13, e13, W13, st13⟩ := stR X12 hx hZ e12 Ar13 (j := (5 : Int32)) hin13 rfl (Sto.ofV Ar13 q13 V1 (Ins.self (E_c5.ext O11.2))) (g := (mkF m 40 #[.val (.int z1), .unset, .unset, .unset] [(.ref c5), (.int (5 : Int32)), (.ref b1), (.ref b1)])) rfl rfl (hb hby at_40)
  have Vs13 : Arv Z h13 b1 k1 (.object "com/example/latmere/latmere/spatial/GeometryType") (12 : Int32) [(.ref c0), (.ref c1), (.ref c2), (.ref c3), (.ref c4), (.ref c5), .null, .null, .null, .null, .null, .null] .null := Arv.set Ar13 q13 S13 M13 H13 G13 rfl W13 5 rfl (own_lt rfl)
  refine own_to st13 ?_
  have O13 := O11.wr W13 g_b1
  have N13 := Fr.snoc X13 N11 g_b1
  show own_Ends _ _ _ _ (T13.setTop (mkF m 41 #[.val (.int z1), .unset, .unset, .unset] [(.ref b1)]))
  refine own_to (fun _ kont => XS.dup X13.here hx rfl (hb hby at_41) rfl rfl kont) ?_
  show own_Ends _ _ _ _ (T13.setTop (mkF m 42 #[.val (.int z1), .unset, .unset, .unset] [(.ref b1), (.ref b1)]))
  refine own_to (fun _ kont => XS.bipush X13.here hx rfl (hb hby at_42) kont) ?_
  show own_Ends _ _ _ _ (T13.setTop (mkF m 44 #[.val (.int z1), .unset, .unset, .unset] [(.int 6), (.ref b1), (.ref b1)]))
  obtain ⟨T14, X14, e14, st14⟩ := getS2 X13 hx hZ hown (host := "") (Or.inl (ow16 hw)) Via.refl e13 (S_c6.ext O13.2) (g := (mkF m 44 #[.val (.int z1), .unset, .unset, .unset] [(.int (6 : Int32)), (.ref b1), (.ref b1)])) rfl (hb hby at_44)
  refine own_to st14 ?_
  show own_Ends _ _ _ _ (T14.setTop (mkF m 47 #[.val (.int z1), .unset, .unset, .unset] [(.ref c6), (.int 6), (.ref b1), (.ref b1)]))
  obtain ⟨cl15, Ar15, q15, S15, M15, H15, G15⟩ := Vs13
  have hin15 : ¬ ((6 : Int32) < 0 ∨ cl15.slots.size ≤ ((6 : Int32)).toNatClampNeg) := inb_of S15 ⟨by decide, by decide⟩
  obtain ⟨T15, h15, X15, e15, W15, st15⟩ := stR X14 hx hZ e14 Ar15 (j := (6 : Int32)) hin15 rfl (Sto.ofV Ar15 q15 V1 (Ins.self (E_c6.ext O13.2))) (g := (mkF m 47 #[.val (.int z1), .unset, .unset, .unset] [(.ref c6), (.int (6 : Int32)), (.ref b1), (.ref b1)])) rfl rfl (hb hby at_47)
  have Vs15 : Arv Z h15 b1 k1 (.object "com/example/latmere/latmere/spatial/GeometryType") (12 : Int32) [(.ref c0), (.ref c1), (.ref c2), (.ref c3), (.ref c4), (.ref c5), (.ref c6), .null, .null, .null, .null, .null] .null := Arv.set Ar15 q15 S15 M15 H15 G15 rfl W15 6 rfl (own_lt rfl)
  refine own_to st15 ?_
  have O15 := O13.wr W15 g_b1
  have N15 := Fr.snoc X15 N13 g_b1
  show own_Ends _ _ _ _ (T15.setTop (mkF m 48 #[.val (.int z1), .unset, .unset, .unset] [(.ref b1)]))
  refine own_to (fun _ kont => XS.dup X15.here hx rfl (hb hby at_48) rfl rfl kont) ?_
  show own_Ends _ _ _ _ (T15.setTop (mkF m 49 #[.val (.int z1), .unset, .unset, .unset] [(.ref b1), (.ref b1)]))
  refine own_to (fun _ kont => XS.bipush X15.here hx rfl (hb hby at_49) kont) ?_
  show own_Ends _ _ _ _ (T15.setTop (mkF m 51 #[.val (.int z1), .unset, .unset, .unset] [(.int 7), (.ref b1), (.ref b1)]))
  obtain ⟨T16, X16, e16, st16⟩ := getS2 X15 hx hZ hown (host := "") (Or.inl (ow18 hw)) Via.refl e15 (S_c7.ext O15.2) (g := (mkF m 51 #[.val (.int z1), .unset, .unset, .unset] [(.int (7 : Int32)), (.ref b1), (.ref b1)])) rfl (hb hby at_51)
  refine own_to st16 ?_
  show own_Ends _ _ _ _ (T16.setTop (mkF m 54 #[.val (.int z1), .unset, .unset, .unset] [(.ref c7), (.int 7), (.ref b1), (.ref b1)]))
  obtain ⟨cl17, Ar17, q17, S17, M17, H17, G17⟩ := Vs15
  have hin17 : ¬ ((7 : Int32) < 0 ∨ cl17.slots.size ≤ ((7 : Int32)).toNatClampNeg) := inb_of S17 ⟨by decide, by decide⟩
  obtain ⟨T17, h17, X17, e17, W17, st17⟩ := stR X16 hx hZ e16 Ar17 (j := (7 : Int32)) hin17 rfl (Sto.ofV Ar17 q17 V1 (Ins.self (E_c7.ext O15.2))) (g := (mkF m 54 #[.val (.int z1), .unset, .unset, .unset] [(.ref c7), (.int (7 : Int32)), (.ref b1), (.ref b1)])) rfl rfl (hb hby at_54)
  have Vs17 : Arv Z h17 b1 k1 (.object "com/example/latmere/latmere/spatial/GeometryType") (12 : Int32) [(.ref c0), (.ref c1), (.ref c2), (.ref c3), (.ref c4), (.ref c5), (.ref c6), (.ref c7), .null, .null, .null, .null] .null := Arv.set Ar17 q17 S17 M17 H17 G17 rfl W17 7 rfl (own_lt rfl)
  refine own_to st17 ?_
  have O17 := O15.wr W17 g_b1
  have N17 := Fr.snoc X17 N15 g_b1
  show own_Ends _ _ _ _ (T17.setTop (mkF m 55 #[.val (.int z1), .unset, .unset, .unset] [(.ref b1)]))
  refine own_to (fun _ kont => XS.dup X17.here hx rfl (hb hby at_55) rfl rfl kont) ?_
  show own_Ends _ _ _ _ (T17.setTop (mkF m 56 #[.val (.int z1), .unset, .unset, .unset] [(.ref b1), (.ref b1)]))
  refine own_to (fun _ kont => XS.bipush X17.here hx rfl (hb hby at_56) kont) ?_
  show own_Ends _ _ _ _ (T17.setTop (mkF m 58 #[.val (.int z1), .unset, .unset, .unset] [(.int 8), (.ref b1), (.ref b1)]))
  obtain ⟨T18, X18, e18, st18⟩ := getS2 X17 hx hZ hown (host := "") (Or.inl (ow20 hw)) Via.refl e17 (S_c8.ext O17.2) (g := (mkF m 58 #[.val (.int z1), .unset, .unset, .unset] [(.int (8 : Int32)), (.ref b1), (.ref b1)])) rfl (hb hby at_58)
  refine own_to st18 ?_
  show own_Ends _ _ _ _ (T18.setTop (mkF m 61 #[.val (.int z1), .unset, .unset, .unset] [(.ref c8), (.int 8), (.ref b1), (.ref b1)]))
  obtain ⟨cl19, Ar19, q19, S19, M19, H19, G19⟩ := Vs17
  have hin19 : ¬ ((8 : Int32) < 0 ∨ cl19.slots.size ≤ ((8 : Int32)).toNatClampNeg) := inb_of S19 ⟨by decide, by decide⟩
  obtain ⟨T19, h19, X19, e19, W19, st19⟩ := stR X18 hx hZ e18 Ar19 (j := (8 : Int32)) hin19 rfl (Sto.ofV Ar19 q19 V1 (Ins.self (E_c8.ext O17.2))) (g := (mkF m 61 #[.val (.int z1), .unset, .unset, .unset] [(.ref c8), (.int (8 : Int32)), (.ref b1), (.ref b1)])) rfl rfl (hb hby at_61)
  have Vs19 : Arv Z h19 b1 k1 (.object "com/example/latmere/latmere/spatial/GeometryType") (12 : Int32) [(.ref c0), (.ref c1), (.ref c2), (.ref c3), (.ref c4), (.ref c5), (.ref c6), (.ref c7), (.ref c8), .null, .null, .null] .null := Arv.set Ar19 q19 S19 M19 H19 G19 rfl W19 8 rfl (own_lt rfl)
  refine own_to st19 ?_
  have O19 := O17.wr W19 g_b1
  have N19 := Fr.snoc X19 N17 g_b1
  show own_Ends _ _ _ _ (T19.setTop (mkF m 62 #[.val (.int z1), .unset, .unset, .unset] [(.ref b1)]))
  refine own_to (fun _ kont => XS.dup X19.here hx rfl (hb hby at_62) rfl rfl kont) ?_
  show own_Ends _ _ _ _ (T19.setTop (mkF m 63 #[.val (.int z1), .unset, .unset, .unset] [(.ref b1), (.ref b1)]))
  refine own_to (fun _ kont => XS.bipush X19.here hx rfl (hb hby at_63) kont) ?_
  show own_Ends _ _ _ _ (T19.setTop (mkF m 65 #[.val (.int z1), .unset, .unset, .unset] [(.int 9), (.ref b1), (.ref b1)]))
  obtain ⟨T20, X20, e20, st20⟩ := getS2 X19 hx hZ hown (host := "") (Or.inl (ow22 hw)) Via.refl e19 (S_c9.ext O19.2) (g := (mkF m 65 #[.val (.int z1), .unset, .unset, .unset] [(.int (9 : Int32)), (.ref b1), (.ref b1)])) rfl (hb hby at_65)
  refine own_to st20 ?_
  show own_Ends _ _ _ _ (T20.setTop (mkF m 68 #[.val (.int z1), .unset, .unset, .unset] [(.ref c9), (.int 9), (.ref b1), (.ref b1)]))
  obtain ⟨cl21, Ar21, q21, S21, M21, H21, G21⟩ := Vs19
  have hin21 : ¬ ((9 : Int32) < 0 ∨ cl21.slots.size ≤ ((9 : Int32)).toNatClampNeg) := inb_of S21 ⟨by decide, by decide⟩
  obtain ⟨T21, h21, X21, e21, W21, st21⟩ := stR X20 hx hZ e20 Ar21 (j := (9 : Int32)) hin21 rfl (Sto.ofV Ar21 q21 V1 (Ins.self (E_c9.ext O19.2))) (g := (mkF m 68 #[.val (.int z1), .unset, .unset, .unset] [(.ref c9), (.int (9 : Int32)), (.ref b1), (.ref b1)])) rfl rfl (hb hby at_68)
  have Vs21 : Arv Z h21 b1 k1 (.object "com/example/latmere/latmere/spatial/GeometryType") (12 : Int32) [(.ref c0), (.ref c1), (.ref c2), (.ref c3), (.ref c4), (.ref c5), (.ref c6), (.ref c7), (.ref c8), (.ref c9), .null, .null] .null := Arv.set Ar21 q21 S21 M21 H21 G21 rfl W21 9 rfl (own_lt rfl)
  refine own_to st21 ?_
  have O21 := O19.wr W21 g_b1
  have N21 := Fr.snoc X21 N19 g_b1
  show own_Ends _ _ _ _ (T21.setTop (mkF m 69 #[.val (.int z1), .unset, .unset, .unset] [(.ref b1)]))
  refine own_to (fun _ kont => XS.dup X21.here hx rfl (hb hby at_69) rfl rfl kont) ?_
  show own_Ends _ _ _ _ (T21.setTop (mkF m 70 #[.val (.int z1), .unset, .unset, .unset] [(.ref b1), (.ref b1)]))
  refine own_to (fun _ kont => XS.bipush X21.here hx rfl (hb hby at_70) kont) ?_
  show own_Ends _ _ _ _ (T21.setTop (mkF m 72 #[.val (.int z1), .unset, .unset, .unset] [(.int 10), (.ref b1), (.ref b1)]))
  obtain ⟨T22, X22, e22, st22⟩ := getS2 X21 hx hZ hown (host := "") (Or.inl (ow24 hw)) Via.refl e21 (S_c10.ext O21.2) (g := (mkF m 72 #[.val (.int z1), .unset, .unset, .unset] [(.int (10 : Int32)), (.ref b1), (.ref b1)])) rfl (hb hby at_72)
  refine own_to st22 ?_
  show own_Ends _ _ _ _ (T22.setTop (mkF m 75 #[.val (.int z1), .unset, .unset, .unset] [(.ref c10), (.int 10), (.ref b1), (.ref b1)]))
  obtain ⟨cl23, Ar23, q23, S23, M23, H23, G23⟩ := Vs21
  have hin23 : ¬ ((10 : Int32) < 0 ∨ cl23.slots.size ≤ ((10 : Int32)).toNatClampNeg) := inb_of S23 ⟨by decide, by decide⟩
  obtain ⟨T23, h23, X23, e23, W23, st23⟩ := stR X22 hx hZ e22 Ar23 (j := (10 : Int32)) hin23 rfl (Sto.ofV Ar23 q23 V1 (Ins.self (E_c10.ext O21.2))) (g := (mkF m 75 #[.val (.int z1), .unset, .unset, .unset] [(.ref c10), (.int (10 : Int32)), (.ref b1), (.ref b1)])) rfl rfl (hb hby at_75)
  have Vs23 : Arv Z h23 b1 k1 (.object "com/example/latmere/latmere/spatial/GeometryType") (12 : Int32) [(.ref c0), (.ref c1), (.ref c2), (.ref c3), (.ref c4), (.ref c5), (.ref c6), (.ref c7), (.ref c8), (.ref c9), (.ref c10), .null] .null := Arv.set Ar23 q23 S23 M23 H23 G23 rfl W23 10 rfl (own_lt rfl)
  refine own_to st23 ?_
  have O23 := O21.wr W23 g_b1
  have N23 := Fr.snoc X23 N21 g_b1
  show own_Ends _ _ _ _ (T23.setTop (mkF m 76 #[.val (.int z1), .unset, .unset, .unset] [(.ref b1)]))
  refine own_to (fun _ kont => XS.dup X23.here hx rfl (hb hby at_76) rfl rfl kont) ?_
  show own_Ends _ _ _ _ (T23.setTop (mkF m 77 #[.val (.int z1), .unset, .unset, .unset] [(.ref b1), (.ref b1)]))
  refine own_to (fun _ kont => XS.bipush X23.here hx rfl (hb hby at_77) kont) ?_
  show own_Ends _ _ _ _ (T23.setTop (mkF m 79 #[.val (.int z1), .unset, .unset, .unset] [(.int 11), (.ref b1), (.ref b1)]))
  obtain ⟨T24, X24, e24, st24⟩ := getS2 X23 hx hZ hown (host := "") (Or.inl (ow26 hw)) Via.refl e23 (S_c11.ext O23.2) (g := (mkF m 79 #[.val (.int z1), .unset, .unset, .unset] [(.int (11 : Int32)), (.ref b1), (.ref b1)])) rfl (hb hby at_79)
  refine own_to st24 ?_
  show own_Ends _ _ _ _ (T24.setTop (mkF m 82 #[.val (.int z1), .unset, .unset, .unset] [(.ref c11), (.int 11), (.ref b1), (.ref b1)]))
  obtain ⟨cl25, Ar25, q25, S25, M25, H25, G25⟩ := Vs23
  have hin25 : ¬ ((11 : Int32) < 0 ∨ cl25.slots.size ≤ ((11 : Int32)).toNatClampNeg) := inb_of S25 ⟨by decide, by decide⟩
  obtain ⟨T25, h25, X25, e25, W25, st25⟩ := stR X24 hx hZ e24 Ar25 (j := (11 : Int32)) hin25 rfl (Sto.ofV Ar25 q25 V1 (Ins.self (E_c11.ext O23.2))) (g := (mkF m 82 #[.val (.int z1), .unset, .unset, .unset] [(.ref c11), (.int (11 : Int32)), (.ref b1), (.ref b1)])) rfl rfl (hb hby at_82)
  have Vs25 : Arv Z h25 b1 k1 (.object "com/example/latmere/latmere/spatial/GeometryType") (12 : Int32) [(.ref c0), (.ref c1), (.ref c2), (.ref c3), (.ref c4), (.ref c5), (.ref c6), (.ref c7), (.ref c8), (.ref c9), (.ref c10), (.ref c11)] .null := Arv.set Ar25 q25 S25 M25 H25 G25 rfl W25 11 rfl (own_lt rfl)
  refine own_to st25 ?_
  have O25 := O23.wr W25 g_b1
  have N25 := Fr.snoc X25 N23 g_b1
  show own_Ends _ _ _ _ (T25.setTop (mkF m 83 #[.val (.int z1), .unset, .unset, .unset] [(.ref b1)]))
  refine own_to (fun _ kont => XS.astoreN X25.here hx rfl (hb hby at_83) rfl rfl (l' := #[.val (.int z1), .val (.ref b1), .unset, .unset]) rfl kont) ?_
  show own_Ends _ _ _ _ (T25.setTop (mkF m 84 #[.val (.int z1), .val (.ref b1), .unset, .unset] []))
  refine own_to (fun _ kont => XS.iloadN X25.here hx rfl (hb hby at_84) rfl kont) ?_
  show own_Ends _ _ _ _ (T25.setTop (mkF m 85 #[.val (.int z1), .val (.ref b1), .unset, .unset] [(.int z1)]))
  refine own_to (X25.ldcInt hx hown (mvT hZ (ow28 hw)) (g := (mkF m 85 #[.val (.int z1), .val (.ref b1), .unset, .unset] [(.int z1)])) rfl (hb hby at_85)) ?_
  show own_Ends _ _ _ _ (T25.setTop (mkF m 87 #[.val (.int z1), .val (.ref b1), .unset, .unset] [(.int 2147483647), (.int z1)]))
  refine own_to (fun _ kont => XS.iand X25.here hx rfl (hb hby at_87) rfl kont) ?_
  show own_Ends _ _ _ _ (T25.setTop (mkF m 88 #[.val (.int z1), .val (.ref b1), .unset, .unset] [(.int (z1 &&& 2147483647))]))
  refine own_to (fun _ kont => XS.bipush X25.here hx rfl (hb hby at_88) kont) ?_
  show own_Ends _ _ _ _ (T25.setTop (mkF m 90 #[.val (.int z1), .val (.ref b1), .unset, .unset] [(.int 12), (.int (z1 &&& 2147483647))]))
  refine own_to (fun _ kont => iremM X25 hx rfl (hb hby at_90) rfl (by decide) kont) ?_
  show own_Ends _ _ _ _ (T25.setTop (mkF m 91 #[.val (.int z1), .val (.ref b1), .unset, .unset] [(.int ((z1 &&& 2147483647) % 12))]))
  generalize hi26 : ((z1 &&& (2147483647 : Int32)) % (12 : Int32)) = i26
  rcases (hi26 ▸ own_mod12 z1 : i26 = 0 ∨ i26 = 1 ∨ i26 = 2 ∨ i26 = 3 ∨ i26 = 4 ∨ i26 = 5 ∨ i26 = 6 ∨ i26 = 7 ∨ i26 = 8 ∨ i26 = 9 ∨ i26 = 10 ∨ i26 = 11) with rfl | rfl | rfl | rfl | rfl | rfl | rfl | rfl | rfl | rfl | rfl | rfl
  · skip
    show own_Ends _ _ _ _ (T25.setTop (mkF m 91 #[.val (.int z1), .val (.ref b1), .unset, .unset] [(.int 0)]))
    refine own_to (fun _ kont => XS.iconst X25.here hx rfl (hb hby at_91) kont) ?_
    show own_Ends _ _ _ _ (T25.setTop (mkF m 92 #[.val (.int z1), .val (.ref b1), .unset, .unset] [(.int 1), (.int 0)]))
    refine own_to (fun _ kont => XS.iadd X25.here hx rfl (hb hby at_92) rfl kont) ?_
    show own_Ends _ _ _ _ (T25.setTop (mkF m 93 #[.val (.int z1), .val (.ref b1), .unset, .unset] [(.int 1)]))
    refine own_to (fun _ kont => XS.istoreN X25.here hx rfl (hb hby at_93) rfl (l' := #[.val (.int z1), .val (.ref b1), .val (.int (1 : Int32)), .unset]) rfl kont) ?_
    show own_Ends _ _ _ _ (T25.setTop (mkF m 94 #[.val (.int z1), .val (.ref b1), .val (.int 1), .unset] []))
    refine own_to (fun _ kont => XS.iloadN X25.here hx rfl (hb hby at_94) rfl kont) ?_
    show own_Ends _ _ _ _ (T25.setTop (mkF m 95 #[.val (.int z1), .val (.ref b1), .val (.int 1), .unset] [(.int 1)]))
    refine own_to (fun _ kont => XS.iconst X25.here hx rfl (hb hby at_95) kont) ?_
    show own_Ends _ _ _ _ (T25.setTop (mkF m 96 #[.val (.int z1), .val (.ref b1), .val (.int 1), .unset] [(.int 1), (.int 1)]))
    refine own_to (fun _ kont => XS.icmpYes X25.here hx rfl (pc0 := 96) (pc' := 110) rfl (hb hby at_96) rfl (teq (by decide)).1 (by decide) (by decide) kont) ?_
    show own_Ends _ _ _ _ (T25.setTop (mkF m 110 #[.val (.int z1), .val (.ref b1), .val (.int 1), .unset] []))
    refine own_to (fun _ kont => XS.iconst X25.here hx rfl (hb hby at_110) kont) ?_
    show own_Ends _ _ _ _ (T25.setTop (mkF m 111 #[.val (.int z1), .val (.ref b1), .val (.int 1), .unset] [(.int 1)]))
    refine own_to (fun _ kont => XS.goto X25.here hx rfl (pc0 := 111) (pc' := 115) rfl (hb hby at_111) (by decide) (by decide) kont) ?_
    show own_Ends _ _ _ _ (T25.setTop (mkF m 115 #[.val (.int z1), .val (.ref b1), .val (.int 1), .unset] [(.int 1)]))
    refine own_to (fun _ kont => XS.istoreN X25.here hx rfl (hb hby at_115) rfl (l' := #[.val (.int z1), .val (.ref b1), .val (.int (1 : Int32)), .val (.int (1 : Int32))]) rfl kont) ?_
    show own_Ends _ _ _ _ (T25.setTop (mkF m 116 #[.val (.int z1), .val (.ref b1), .val (.int 1), .val (.int 1)] []))
    refine own_to (fun _ kont => XS.aloadN X25.here hx rfl (hb hby at_116) rfl rfl kont) ?_
    show own_Ends _ _ _ _ (T25.setTop (mkF m 117 #[.val (.int z1), .val (.ref b1), .val (.int 1), .val (.int 1)] [(.ref b1)]))
    refine own_to (fun _ kont => XS.iloadN X25.here hx rfl (hb hby at_117) rfl kont) ?_
    show own_Ends _ _ _ _ (T25.setTop (mkF m 118 #[.val (.int z1), .val (.ref b1), .val (.int 1), .val (.int 1)] [(.int 1), (.ref b1)]))
    refine own_to (fun _ kont => XS.iconst X25.here hx rfl (hb hby at_118) kont) ?_
    show own_Ends _ _ _ _ (T25.setTop (mkF m 119 #[.val (.int z1), .val (.ref b1), .val (.int 1), .val (.int 1)] [(.int 1), (.int 1), (.ref b1)]))
    refine own_to (fun _ kont => XS.isub X25.here hx rfl (hb hby at_119) rfl kont) ?_
    show own_Ends _ _ _ _ (T25.setTop (mkF m 120 #[.val (.int z1), .val (.ref b1), .val (.int 1), .val (.int 1)] [(.int 0), (.ref b1)]))
    obtain ⟨cl27, Ar27, q27, S27, M27, H27, G27⟩ := Vs25
    have hin27 : ¬ ((0 : Int32) < 0 ∨ cl27.slots.size ≤ ((0 : Int32)).toNatClampNeg) := inb_of S27 ⟨by decide, by decide⟩
    have hat27 : cl27.slots[((0 : Int32)).toNatClampNeg]? = some (.ref c0) := Has.at H27 hin27 rfl
    refine own_to (fun _ kont => X25.aaload hx (j := (0 : Int32)) (v := (.ref c0)) (by rw [e25]; exact Ar27.1) (State.isArrayOf_alike hZ.alike Ar27.2.1) rfl Ar27.2.2 hin27 hat27 (g := (mkF m 120 #[.val (.int z1), .val (.ref b1), .val (.int (1 : Int32)), .val (.int (1 : Int32))] [(.int (0 : Int32)), (.ref b1)])) rfl rfl (hb hby at_120) _ kont) ?_
    show own_Ends _ _ _ _ (T25.setTop (mkF m 121 #[.val (.int z1), .val (.ref b1), .val (.int 1), .val (.int 1)] [(.ref c0)]))
    obtain ⟨cq28, kq28, q28a, q28b, q28c⟩ := isOf hZ e25 (E_c0.ext O25.2)
    obtain ⟨_, _, ⟨T28, L28, k28, n28⟩, -, X28, ⟨Lc28, hQ28, l28, y28, z28⟩, st28⟩ := X25.virtualBack hx (y := oM0) (z := oM0) hown (mvT hZ (ow29 hw)) (mvT hZ (ow30 hw)) (notFace_of_selects (args := #[]) (mvT hZ (ow32 hw))) (mvT hZ (ow32 hw)) (mvT hZ (ow31 hw)) (by decide) (backOf (W := 0) (rm2 l Z a0 hw [] c0 c0 c1 c7 h25 n0 O25 S_c0 S_c1 S_c7) hZ (ow33 hw) (ow3 hw) (by decide) (by decide)) q28a q28c (g := (mkF m 121 #[.val (.int z1), .val (.ref b1), .val (.int (1 : Int32)), .val (.int (1 : Int32))] [(.ref c0)])) rfl (by rw [hml]; rfl) (Steps.refl _) (argsL := []) (rest := []) (lenOf pd_0 rfl) rfl (by show 2 * 0 + _ ≤ _; exact Nat.le_of_eq rfl) (hb hby at_121) (fun _ _ => ⟨rfl, e25, (own_le rfl), (own_le rfl)⟩)
    dsimp only [Pt.U, Pt.locs, Pt.cells, Pt.slots] at X28 l28 y28 z28 st28 hQ28
    subst l28 y28 z28
    obtain ⟨hv28, N28q, E28⟩ := hQ28
    rw [own_is_yes (by simp)] at hv28
    subst hv28
    have N28 := Fr.app N25 N28q
    refine own_tr st28 ?_
    show own_Ends _ _ _ _ (T28.setTop (mkF m 124 #[.val (.int z1), .val (.ref b1), .val (.int 1), .val (.int 1)] [(.int 1)]))
    refine own_to (fun _ kont => XS.iloadN X28.here hx rfl (hb hby at_124) rfl kont) ?_
    show own_Ends _ _ _ _ (T28.setTop (mkF m 125 #[.val (.int z1), .val (.ref b1), .val (.int 1), .val (.int 1)] [(.int 1), (.int 1)]))
    refine own_to (fun _ kont => XS.icmpNo X28.here hx rfl (hb hby at_125) rfl (teq (by decide)).2 kont) ?_
    show own_Ends _ _ _ _ (T28.setTop (mkF m 128 #[.val (.int z1), .val (.ref b1), .val (.int 1), .val (.int 1)] []))
    refine own_to (fun _ kont => XS.iconst X28.here hx rfl (hb hby at_128) kont) ?_
    show own_Ends _ _ _ _ (T28.setTop (mkF m 129 #[.val (.int z1), .val (.ref b1), .val (.int 1), .val (.int 1)] [(.int 1)]))
    refine own_to (fun _ kont => XS.goto X28.here hx rfl (pc0 := 129) (pc' := 133) rfl (hb hby at_129) (by decide) (by decide) kont) ?_
    show own_Ends _ _ _ _ (T28.setTop (mkF m 133 #[.val (.int z1), .val (.ref b1), .val (.int 1), .val (.int 1)] [(.int 1)]))
    refine own_leave X28 (v := some (.int (1 : Int32))) (fun h => by rw [Bd.returns] at h; cases h) ?_ (by decide) (by decide) (fun fs hr => retN X28 hx (t := .boolean) Bd.returns (by simp) (hb hby at_133) hr)
    show Q_rm0 Z z1 c0 c1 c2 c3 c4 c5 c6 c7 c8 c9 c10 c11 h0 n0 _ T28.heap _
    rw [E28]
    exact ⟨rfl, N28⟩
  · skip
    show own_Ends _ _ _ _ (T25.setTop (mkF m 91 #[.val (.int z1), .val (.ref b1), .unset, .unset] [(.int 1)]))
    refine own_to (fun _ kont => XS.iconst X25.here hx rfl (hb hby at_91) kont) ?_
    show own_Ends _ _ _ _ (T25.setTop (mkF m 92 #[.val (.int z1), .val (.ref b1), .unset, .unset] [(.int 1), (.int 1)]))
    refine own_to (fun _ kont => XS.iadd X25.here hx rfl (hb hby at_92) rfl kont) ?_
    show own_Ends _ _ _ _ (T25.setTop (mkF m 93 #[.val (.int z1), .val (.ref b1), .unset, .unset] [(.int 2)]))
    refine own_to (fun _ kont => XS.istoreN X25.here hx rfl (hb hby at_93) rfl (l' := #[.val (.int z1), .val (.ref b1), .val (.int (2 : Int32)), .unset]) rfl kont) ?_
    show own_Ends _ _ _ _ (T25.setTop (mkF m 94 #[.val (.int z1), .val (.ref b1), .val (.int 2), .unset] []))
    refine own_to (fun _ kont => XS.iloadN X25.here hx rfl (hb hby at_94) rfl kont) ?_
    show own_Ends _ _ _ _ (T25.setTop (mkF m 95 #[.val (.int z1), .val (.ref b1), .val (.int 2), .unset] [(.int 2)]))
    refine own_to (fun _ kont => XS.iconst X25.here hx rfl (hb hby at_95) kont) ?_
    show own_Ends _ _ _ _ (T25.setTop (mkF m 96 #[.val (.int z1), .val (.ref b1), .val (.int 2), .unset] [(.int 1), (.int 2)]))
    refine own_to (fun _ kont => XS.icmpNo X25.here hx rfl (hb hby at_96) rfl (feq (by decide)).1 kont) ?_
    show own_Ends _ _ _ _ (T25.setTop (mkF m 99 #[.val (.int z1), .val (.ref b1), .val (.int 2), .unset] []))
    refine own_to (fun _ kont => XS.iloadN X25.here hx rfl (hb hby at_99) rfl kont) ?_
    show own_Ends _ _ _ _ (T25.setTop (mkF m 100 #[.val (.int z1), .val (.ref b1), .val (.int 2), .unset] [(.int 2)]))
    refine own_to (fun _ kont => XS.iconst X25.here hx rfl (hb hby at_100) kont) ?_
    show own_Ends _ _ _ _ (T25.setTop (mkF m 101 #[.val (.int z1), .val (.ref b1), .val (.int 2), .unset] [(.int 2), (.int 2)]))
    refine own_to (fun _ kont => XS.icmpYes X25.here hx rfl (pc0 := 101) (pc' := 110) rfl (hb hby at_101) rfl (teq (by decide)).1 (by decide) (by decide) kont) ?_
    show own_Ends _ _ _ _ (T25.setTop (mkF m 110 #[.val (.int z1), .val (.ref b1), .val (.int 2), .unset] []))
    refine own_to (fun _ kont => XS.iconst X25.here hx rfl (hb hby at_110) kont) ?_
    show own_Ends _ _ _ _ (T25.setTop (mkF m 111 #[.val (.int z1), .val (.ref b1), .val (.int 2), .unset] [(.int 1)]))
    refine own_to (fun _ kont => XS.goto X25.here hx rfl (pc0 := 111) (pc' := 115) rfl (hb hby at_111) (by decide) (by decide) kont) ?_
    show own_Ends _ _ _ _ (T25.setTop (mkF m 115 #[.val (.int z1), .val (.ref b1), .val (.int 2), .unset] [(.int 1)]))
    refine own_to (fun _ kont => XS.istoreN X25.here hx rfl (hb hby at_115) rfl (l' := #[.val (.int z1), .val (.ref b1), .val (.int (2 : Int32)), .val (.int (1 : Int32))]) rfl kont) ?_
    show own_Ends _ _ _ _ (T25.setTop (mkF m 116 #[.val (.int z1), .val (.ref b1), .val (.int 2), .val (.int 1)] []))
    refine own_to (fun _ kont => XS.aloadN X25.here hx rfl (hb hby at_116) rfl rfl kont) ?_
    show own_Ends _ _ _ _ (T25.setTop (mkF m 117 #[.val (.int z1), .val (.ref b1), .val (.int 2), .val (.int 1)] [(.ref b1)]))
    refine own_to (fun _ kont => XS.iloadN X25.here hx rfl (hb hby at_117) rfl kont) ?_
    show own_Ends _ _ _ _ (T25.setTop (mkF m 118 #[.val (.int z1), .val (.ref b1), .val (.int 2), .val (.int 1)] [(.int 2), (.ref b1)]))
    refine own_to (fun _ kont => XS.iconst X25.here hx rfl (hb hby at_118) kont) ?_
    show own_Ends _ _ _ _ (T25.setTop (mkF m 119 #[.val (.int z1), .val (.ref b1), .val (.int 2), .val (.int 1)] [(.int 1), (.int 2), (.ref b1)]))
    refine own_to (fun _ kont => XS.isub X25.here hx rfl (hb hby at_119) rfl kont) ?_
    show own_Ends _ _ _ _ (T25.setTop (mkF m 120 #[.val (.int z1), .val (.ref b1), .val (.int 2), .val (.int 1)] [(.int 1), (.ref b1)]))
    obtain ⟨cl29, Ar29, q29, S29, M29, H29, G29⟩ := Vs25
    have hin29 : ¬ ((1 : Int32) < 0 ∨ cl29.slots.size ≤ ((1 : Int32)).toNatClampNeg) := inb_of S29 ⟨by decide, by decide⟩
    have hat29 : cl29.slots[((1 : Int32)).toNatClampNeg]? = some (.ref c1) := Has.at H29 hin29 rfl
    refine own_to (fun _ kont => X25.aaload hx (j := (1 : Int32)) (v := (.ref c1)) (by rw [e25]; exact Ar29.1) (State.isArrayOf_alike hZ.alike Ar29.2.1) rfl Ar29.2.2 hin29 hat29 (g := (mkF m 120 #[.val (.int z1), .val (.ref b1), .val (.int (2 : Int32)), .val (.int (1 : Int32))] [(.int (1 : Int32)), (.ref b1)])) rfl rfl (hb hby at_120) _ kont) ?_
    show own_Ends _ _ _ _ (T25.setTop (mkF m 121 #[.val (.int z1), .val (.ref b1), .val (.int 2), .val (.int 1)] [(.ref c1)]))
    obtain ⟨cq30, kq30, q30a, q30b, q30c⟩ := isOf hZ e25 (E_c1.ext O25.2)
    obtain ⟨_, _, ⟨T30, L30, k30, n30⟩, -, X30, ⟨Lc30, hQ30, l30, y30, z30⟩, st30⟩ := X25.virtualBack hx (y := oM0) (z := oM0) hown (mvT hZ (ow29 hw)) (mvT hZ (ow30 hw)) (notFace_of_selects (args := #[]) (mvT hZ (ow32 hw))) (mvT hZ (ow32 hw)) (mvT hZ (ow31 hw)) (by decide) (backOf (W := 0) (rm2 l Z a0 hw [] c1 c0 c1 c7 h25 n0 O25 S_c0 S_c1 S_c7) hZ (ow33 hw) (ow3 hw) (by decide) (by decide)) q30a q30c (g := (mkF m 121 #[.val (.int z1), .val (.ref b1), .val (.int (2 : Int32)), .val (.int (1 : Int32))] [(.ref c1)])) rfl (by rw [hml]; rfl) (Steps.refl _) (argsL := []) (rest := []) (lenOf pd_0 rfl) rfl (by show 2 * 0 + _ ≤ _; exact Nat.le_of_eq rfl) (hb hby at_121) (fun _ _ => ⟨rfl, e25, (own_le rfl), (own_le rfl)⟩)
    dsimp only [Pt.U, Pt.locs, Pt.cells, Pt.slots] at X30 l30 y30 z30 st30 hQ30
    subst l30 y30 z30
    obtain ⟨hv30, N30q, E30⟩ := hQ30
    rw [own_is_yes (by simp)] at hv30
    subst hv30
    have N30 := Fr.app N25 N30q
    refine own_tr st30 ?_
    show own_Ends _ _ _ _ (T30.setTop (mkF m 124 #[.val (.int z1), .val (.ref b1), .val (.int 2), .val (.int 1)] [(.int 1)]))
    refine own_to (fun _ kont => XS.iloadN X30.here hx rfl (hb hby at_124) rfl kont) ?_
    show own_Ends _ _ _ _ (T30.setTop (mkF m 125 #[.val (.int z1), .val (.ref b1), .val (.int 2), .val (.int 1)] [(.int 1), (.int 1)]))
    refine own_to (fun _ kont => XS.icmpNo X30.here hx rfl (hb hby at_125) rfl (teq (by decide)).2 kont) ?_
    show own_Ends _ _ _ _ (T30.setTop (mkF m 128 #[.val (.int z1), .val (.ref b1), .val (.int 2), .val (.int 1)] []))
    refine own_to (fun _ kont => XS.iconst X30.here hx rfl (hb hby at_128) kont) ?_
    show own_Ends _ _ _ _ (T30.setTop (mkF m 129 #[.val (.int z1), .val (.ref b1), .val (.int 2), .val (.int 1)] [(.int 1)]))
    refine own_to (fun _ kont => XS.goto X30.here hx rfl (pc0 := 129) (pc' := 133) rfl (hb hby at_129) (by decide) (by decide) kont) ?_
    show own_Ends _ _ _ _ (T30.setTop (mkF m 133 #[.val (.int z1), .val (.ref b1), .val (.int 2), .val (.int 1)] [(.int 1)]))
    refine own_leave X30 (v := some (.int (1 : Int32))) (fun h => by rw [Bd.returns] at h; cases h) ?_ (by decide) (by decide) (fun fs hr => retN X30 hx (t := .boolean) Bd.returns (by simp) (hb hby at_133) hr)
    show Q_rm0 Z z1 c0 c1 c2 c3 c4 c5 c6 c7 c8 c9 c10 c11 h0 n0 _ T30.heap _
    rw [E30]
    exact ⟨rfl, N30⟩
  · skip
    show own_Ends _ _ _ _ (T25.setTop (mkF m 91 #[.val (.int z1), .val (.ref b1), .unset, .unset] [(.int 2)]))
    refine own_to (fun _ kont => XS.iconst X25.here hx rfl (hb hby at_91) kont) ?_
    show own_Ends _ _ _ _ (T25.setTop (mkF m 92 #[.val (.int z1), .val (.ref b1), .unset, .unset] [(.int 1), (.int 2)]))
    refine own_to (fun _ kont => XS.iadd X25.here hx rfl (hb hby at_92) rfl kont) ?_
    show own_Ends _ _ _ _ (T25.setTop (mkF m 93 #[.val (.int z1), .val (.ref b1), .unset, .unset] [(.int 3)]))
    refine own_to (fun _ kont => XS.istoreN X25.here hx rfl (hb hby at_93) rfl (l' := #[.val (.int z1), .val (.ref b1), .val (.int (3 : Int32)), .unset]) rfl kont) ?_
    show own_Ends _ _ _ _ (T25.setTop (mkF m 94 #[.val (.int z1), .val (.ref b1), .val (.int 3), .unset] []))
    refine own_to (fun _ kont => XS.iloadN X25.here hx rfl (hb hby at_94) rfl kont) ?_
    show own_Ends _ _ _ _ (T25.setTop (mkF m 95 #[.val (.int z1), .val (.ref b1), .val (.int 3), .unset] [(.int 3)]))
    refine own_to (fun _ kont => XS.iconst X25.here hx rfl (hb hby at_95) kont) ?_
    show own_Ends _ _ _ _ (T25.setTop (mkF m 96 #[.val (.int z1), .val (.ref b1), .val (.int 3), .unset] [(.int 1), (.int 3)]))
    refine own_to (fun _ kont => XS.icmpNo X25.here hx rfl (hb hby at_96) rfl (feq (by decide)).1 kont) ?_
    show own_Ends _ _ _ _ (T25.setTop (mkF m 99 #[.val (.int z1), .val (.ref b1), .val (.int 3), .unset] []))
    refine own_to (fun _ kont => XS.iloadN X25.here hx rfl (hb hby at_99) rfl kont) ?_
    show own_Ends _ _ _ _ (T25.setTop (mkF m 100 #[.val (.int z1), .val (.ref b1), .val (.int 3), .unset] [(.int 3)]))
    refine own_to (fun _ kont => XS.iconst X25.here hx rfl (hb hby at_100) kont) ?_
    show own_Ends _ _ _ _ (T25.setTop (mkF m 101 #[.val (.int z1), .val (.ref b1), .val (.int 3), .unset] [(.int 2), (.int 3)]))
    refine own_to (fun _ kont => XS.icmpNo X25.here hx rfl (hb hby at_101) rfl (feq (by decide)).1 kont) ?_
    show own_Ends _ _ _ _ (T25.setTop (mkF m 104 #[.val (.int z1), .val (.ref b1), .val (.int 3), .unset] []))
    refine own_to (fun _ kont => XS.iloadN X25.here hx rfl (hb hby at_104) rfl kont) ?_
    show own_Ends _ _ _ _ (T25.setTop (mkF m 105 #[.val (.int z1), .val (.ref b1), .val (.int 3), .unset] [(.int 3)]))
    refine own_to (fun _ kont => XS.bipush X25.here hx rfl (hb hby at_105) kont) ?_
    show own_Ends _ _ _ _ (T25.setTop (mkF m 107 #[.val (.int z1), .val (.ref b1), .val (.int 3), .unset] [(.int 8), (.int 3)]))
    refine own_to (fun _ kont => XS.icmpYes X25.here hx rfl (pc0 := 107) (pc' := 114) rfl (hb hby at_107) rfl (feq (by decide)).2 (by decide) (by decide) kont) ?_
    show own_Ends _ _ _ _ (T25.setTop (mkF m 114 #[.val (.int z1), .val (.ref b1), .val (.int 3), .unset] []))
    refine own_to (fun _ kont => XS.iconst X25.here hx rfl (hb hby at_114) kont) ?_
    show own_Ends _ _ _ _ (T25.setTop (mkF m 115 #[.val (.int z1), .val (.ref b1), .val (.int 3), .unset] [(.int 0)]))
    refine own_to (fun _ kont => XS.istoreN X25.here hx rfl (hb hby at_115) rfl (l' := #[.val (.int z1), .val (.ref b1), .val (.int (3 : Int32)), .val (.int (0 : Int32))]) rfl kont) ?_
    show own_Ends _ _ _ _ (T25.setTop (mkF m 116 #[.val (.int z1), .val (.ref b1), .val (.int 3), .val (.int 0)] []))
    refine own_to (fun _ kont => XS.aloadN X25.here hx rfl (hb hby at_116) rfl rfl kont) ?_
    show own_Ends _ _ _ _ (T25.setTop (mkF m 117 #[.val (.int z1), .val (.ref b1), .val (.int 3), .val (.int 0)] [(.ref b1)]))
    refine own_to (fun _ kont => XS.iloadN X25.here hx rfl (hb hby at_117) rfl kont) ?_
    show own_Ends _ _ _ _ (T25.setTop (mkF m 118 #[.val (.int z1), .val (.ref b1), .val (.int 3), .val (.int 0)] [(.int 3), (.ref b1)]))
    refine own_to (fun _ kont => XS.iconst X25.here hx rfl (hb hby at_118) kont) ?_
    show own_Ends _ _ _ _ (T25.setTop (mkF m 119 #[.val (.int z1), .val (.ref b1), .val (.int 3), .val (.int 0)] [(.int 1), (.int 3), (.ref b1)]))
    refine own_to (fun _ kont => XS.isub X25.here hx rfl (hb hby at_119) rfl kont) ?_
    show own_Ends _ _ _ _ (T25.setTop (mkF m 120 #[.val (.int z1), .val (.ref b1), .val (.int 3), .val (.int 0)] [(.int 2), (.ref b1)]))
    obtain ⟨cl31, Ar31, q31, S31, M31, H31, G31⟩ := Vs25
    have hin31 : ¬ ((2 : Int32) < 0 ∨ cl31.slots.size ≤ ((2 : Int32)).toNatClampNeg) := inb_of S31 ⟨by decide, by decide⟩
    have hat31 : cl31.slots[((2 : Int32)).toNatClampNeg]? = some (.ref c2) := Has.at H31 hin31 rfl
    refine own_to (fun _ kont => X25.aaload hx (j := (2 : Int32)) (v := (.ref c2)) (by rw [e25]; exact Ar31.1) (State.isArrayOf_alike hZ.alike Ar31.2.1) rfl Ar31.2.2 hin31 hat31 (g := (mkF m 120 #[.val (.int z1), .val (.ref b1), .val (.int (3 : Int32)), .val (.int (0 : Int32))] [(.int (2 : Int32)), (.ref b1)])) rfl rfl (hb hby at_120) _ kont) ?_
    show own_Ends _ _ _ _ (T25.setTop (mkF m 121 #[.val (.int z1), .val (.ref b1), .val (.int 3), .val (.int 0)] [(.ref c2)]))
    obtain ⟨cq32, kq32, q32a, q32b, q32c⟩ := isOf hZ e25 (E_c2.ext O25.2)
    obtain ⟨_, _, ⟨T32, L32, k32, n32⟩, -, X32, ⟨Lc32, hQ32, l32, y32, z32⟩, st32⟩ := X25.virtualBack hx (y := oM0) (z := oM0) hown (mvT hZ (ow29 hw)) (mvT hZ (ow30 hw)) (notFace_of_selects (args := #[]) (mvT hZ (ow32 hw))) (mvT hZ (ow32 hw)) (mvT hZ (ow31 hw)) (by decide) (backOf (W := 0) (rm2 l Z a0 hw [] c2 c0 c1 c7 h25 n0 O25 S_c0 S_c1 S_c7) hZ (ow33 hw) (ow3 hw) (by decide) (by decide)) q32a q32c (g := (mkF m 121 #[.val (.int z1), .val (.ref b1), .val (.int (3 : Int32)), .val (.int (0 : Int32))] [(.ref c2)])) rfl (by rw [hml]; rfl) (Steps.refl _) (argsL := []) (rest := []) (lenOf pd_0 rfl) rfl (by show 2 * 0 + _ ≤ _; exact Nat.le_of_eq rfl) (hb hby at_121) (fun _ _ => ⟨rfl, e25, (own_le rfl), (own_le rfl)⟩)
    dsimp only [Pt.U, Pt.locs, Pt.cells, Pt.slots] at X32 l32 y32 z32 st32 hQ32
    subst l32 y32 z32
    obtain ⟨hv32, N32q, E32⟩ := hQ32
    rw [own_is_no (Fld.ne F_c2 F_c0 (own_intne (by decide))) (Fld.ne F_c2 F_c1 (own_intne (by decide))) (Fld.ne F_c2 F_c7 (own_intne (by decide)))] at hv32
    subst hv32
    have N32 := Fr.app N25 N32q
    refine own_tr st32 ?_
    show own_Ends _ _ _ _ (T32.setTop (mkF m 124 #[.val (.int z1), .val (.ref b1), .val (.int 3), .val (.int 0)] [(.int 0)]))
    refine own_to (fun _ kont => XS.iloadN X32.here hx rfl (hb hby at_124) rfl kont) ?_
    show own_Ends _ _ _ _ (T32.setTop (mkF m 125 #[.val (.int z1), .val (.ref b1), .val (.int 3), .val (.int 0)] [(.int 0), (.int 0)]))
    refine own_to (fun _ kont => XS.icmpNo X32.here hx rfl (hb hby at_125) rfl (teq (by decide)).2 kont) ?_
    show own_Ends _ _ _ _ (T32.setTop (mkF m 128 #[.val (.int z1), .val (.ref b1), .val (.int 3), .val (.int 0)] []))
    refine own_to (fun _ kont => XS.iconst X32.here hx rfl (hb hby at_128) kont) ?_
    show own_Ends _ _ _ _ (T32.setTop (mkF m 129 #[.val (.int z1), .val (.ref b1), .val (.int 3), .val (.int 0)] [(.int 1)]))
    refine own_to (fun _ kont => XS.goto X32.here hx rfl (pc0 := 129) (pc' := 133) rfl (hb hby at_129) (by decide) (by decide) kont) ?_
    show own_Ends _ _ _ _ (T32.setTop (mkF m 133 #[.val (.int z1), .val (.ref b1), .val (.int 3), .val (.int 0)] [(.int 1)]))
    refine own_leave X32 (v := some (.int (1 : Int32))) (fun h => by rw [Bd.returns] at h; cases h) ?_ (by decide) (by decide) (fun fs hr => retN X32 hx (t := .boolean) Bd.returns (by simp) (hb hby at_133) hr)
    show Q_rm0 Z z1 c0 c1 c2 c3 c4 c5 c6 c7 c8 c9 c10 c11 h0 n0 _ T32.heap _
    rw [E32]
    exact ⟨rfl, N32⟩
  · skip
    show own_Ends _ _ _ _ (T25.setTop (mkF m 91 #[.val (.int z1), .val (.ref b1), .unset, .unset] [(.int 3)]))
    refine own_to (fun _ kont => XS.iconst X25.here hx rfl (hb hby at_91) kont) ?_
    show own_Ends _ _ _ _ (T25.setTop (mkF m 92 #[.val (.int z1), .val (.ref b1), .unset, .unset] [(.int 1), (.int 3)]))
    refine own_to (fun _ kont => XS.iadd X25.here hx rfl (hb hby at_92) rfl kont) ?_
    show own_Ends _ _ _ _ (T25.setTop (mkF m 93 #[.val (.int z1), .val (.ref b1), .unset, .unset] [(.int 4)]))
    refine own_to (fun _ kont => XS.istoreN X25.here hx rfl (hb hby at_93) rfl (l' := #[.val (.int z1), .val (.ref b1), .val (.int (4 : Int32)), .unset]) rfl kont) ?_
    show own_Ends _ _ _ _ (T25.setTop (mkF m 94 #[.val (.int z1), .val (.ref b1), .val (.int 4), .unset] []))
    refine own_to (fun _ kont => XS.iloadN X25.here hx rfl (hb hby at_94) rfl kont) ?_
    show own_Ends _ _ _ _ (T25.setTop (mkF m 95 #[.val (.int z1), .val (.ref b1), .val (.int 4), .unset] [(.int 4)]))
    refine own_to (fun _ kont => XS.iconst X25.here hx rfl (hb hby at_95) kont) ?_
    show own_Ends _ _ _ _ (T25.setTop (mkF m 96 #[.val (.int z1), .val (.ref b1), .val (.int 4), .unset] [(.int 1), (.int 4)]))
    refine own_to (fun _ kont => XS.icmpNo X25.here hx rfl (hb hby at_96) rfl (feq (by decide)).1 kont) ?_
    show own_Ends _ _ _ _ (T25.setTop (mkF m 99 #[.val (.int z1), .val (.ref b1), .val (.int 4), .unset] []))
    refine own_to (fun _ kont => XS.iloadN X25.here hx rfl (hb hby at_99) rfl kont) ?_
    show own_Ends _ _ _ _ (T25.setTop (mkF m 100 #[.val (.int z1), .val (.ref b1), .val (.int 4), .unset] [(.int 4)]))
    refine own_to (fun _ kont => XS.iconst X25.here hx rfl (hb hby at_100) kont) ?_
    show own_Ends _ _ _ _ (T25.setTop (mkF m 101 #[.val (.int z1), .val (.ref b1), .val (.int 4), .unset] [(.int 2), (.int 4)]))
    refine own_to (fun _ kont => XS.icmpNo X25.here hx rfl (hb hby at_101) rfl (feq (by decide)).1 kont) ?_
    show own_Ends _ _ _ _ (T25.setTop (mkF m 104 #[.val (.int z1), .val (.ref b1), .val (.int 4), .unset] []))
    refine own_to (fun _ kont => XS.iloadN X25.here hx rfl (hb hby at_104) rfl kont) ?_
    show own_Ends _ _ _ _ (T25.setTop (mkF m 105 #[.val (.int z1), .val (.ref b1), .val (.int 4), .unset] [(.int 4)]))
    refine own_to (fun _ kont => XS.bipush X25.here hx rfl (hb hby at_105) kont) ?_
    show own_Ends _ _ _ _ (T25.setTop (mkF m 107 #[.val (.int z1), .val (.ref b1), .val (.int 4), .unset] [(.int 8), (.int 4)]))
    refine own_to (fun _ kont => XS.icmpYes X25.here hx rfl (pc0 := 107) (pc' := 114) rfl (hb hby at_107) rfl (feq (by decide)).2 (by decide) (by decide) kont) ?_
    show own_Ends _ _ _ _ (T25.setTop (mkF m 114 #[.val (.int z1), .val (.ref b1), .val (.int 4), .unset] []))
    refine own_to (fun _ kont => XS.iconst X25.here hx rfl (hb hby at_114) kont) ?_
    show own_Ends _ _ _ _ (T25.setTop (mkF m 115 #[.val (.int z1), .val (.ref b1), .val (.int 4), .unset] [(.int 0)]))
    refine own_to (fun _ kont => XS.istoreN X25.here hx rfl (hb hby at_115) rfl (l' := #[.val (.int z1), .val (.ref b1), .val (.int (4 : Int32)), .val (.int (0 : Int32))]) rfl kont) ?_
    show own_Ends _ _ _ _ (T25.setTop (mkF m 116 #[.val (.int z1), .val (.ref b1), .val (.int 4), .val (.int 0)] []))
    refine own_to (fun _ kont => XS.aloadN X25.here hx rfl (hb hby at_116) rfl rfl kont) ?_
    show own_Ends _ _ _ _ (T25.setTop (mkF m 117 #[.val (.int z1), .val (.ref b1), .val (.int 4), .val (.int 0)] [(.ref b1)]))
    refine own_to (fun _ kont => XS.iloadN X25.here hx rfl (hb hby at_117) rfl kont) ?_
    show own_Ends _ _ _ _ (T25.setTop (mkF m 118 #[.val (.int z1), .val (.ref b1), .val (.int 4), .val (.int 0)] [(.int 4), (.ref b1)]))
    refine own_to (fun _ kont => XS.iconst X25.here hx rfl (hb hby at_118) kont) ?_
    show own_Ends _ _ _ _ (T25.setTop (mkF m 119 #[.val (.int z1), .val (.ref b1), .val (.int 4), .val (.int 0)] [(.int 1), (.int 4), (.ref b1)]))
    refine own_to (fun _ kont => XS.isub X25.here hx rfl (hb hby at_119) rfl kont) ?_
    show own_Ends _ _ _ _ (T25.setTop (mkF m 120 #[.val (.int z1), .val (.ref b1), .val (.int 4), .val (.int 0)] [(.int 3), (.ref b1)]))
    obtain ⟨cl33, Ar33, q33, S33, M33, H33, G33⟩ := Vs25
    have hin33 : ¬ ((3 : Int32) < 0 ∨ cl33.slots.size ≤ ((3 : Int32)).toNatClampNeg) := inb_of S33 ⟨by decide, by decide⟩
    have hat33 : cl33.slots[((3 : Int32)).toNatClampNeg]? = some (.ref c3) := Has.at H33 hin33 rfl
    refine own_to (fun _ kont => X25.aaload hx (j := (3 : Int32)) (v := (.ref c3)) (by rw [e25]; exact Ar33.1) (State.isArrayOf_alike hZ.alike Ar33.2.1) rfl Ar33.2.2 hin33 hat33 (g := (mkF m 120 #[.val (.int z1), .val (.ref b1), .val (.int (4 : Int32)), .val (.int (0 : Int32))] [(.int (3 : Int32)), (.ref b1)])) rfl rfl (hb hby at_120) _ kont) ?_
    show own_Ends _ _ _ _ (T25.setTop (mkF m 121 #[.val (.int z1), .val (.ref b1), .val (.int 4), .val (.int 0)] [(.ref c3)]))
    obtain ⟨cq34, kq34, q34a, q34b, q34c⟩ := isOf hZ e25 (E_c3.ext O25.2)
    obtain ⟨_, _, ⟨T34, L34, k34, n34⟩, -, X34, ⟨Lc34, hQ34, l34, y34, z34⟩, st34⟩ := X25.virtualBack hx (y := oM0) (z := oM0) hown (mvT hZ (ow29 hw)) (mvT hZ (ow30 hw)) (notFace_of_selects (args := #[]) (mvT hZ (ow32 hw))) (mvT hZ (ow32 hw)) (mvT hZ (ow31 hw)) (by decide) (backOf (W := 0) (rm2 l Z a0 hw [] c3 c0 c1 c7 h25 n0 O25 S_c0 S_c1 S_c7) hZ (ow33 hw) (ow3 hw) (by decide) (by decide)) q34a q34c (g := (mkF m 121 #[.val (.int z1), .val (.ref b1), .val (.int (4 : Int32)), .val (.int (0 : Int32))] [(.ref c3)])) rfl (by rw [hml]; rfl) (Steps.refl _) (argsL := []) (rest := []) (lenOf pd_0 rfl) rfl (by show 2 * 0 + _ ≤ _; exact Nat.le_of_eq rfl) (hb hby at_121) (fun _ _ => ⟨rfl, e25, (own_le rfl), (own_le rfl)⟩)
    dsimp only [Pt.U, Pt.locs, Pt.cells, Pt.slots] at X34 l34 y34 z34 st34 hQ34
    subst l34 y34 z34
    obtain ⟨hv34, N34q, E34⟩ := hQ34
    rw [own_is_no (Fld.ne F_c3 F_c0 (own_intne (by decide))) (Fld.ne F_c3 F_c1 (own_intne (by decide))) (Fld.ne F_c3 F_c7 (own_intne (by decide)))] at hv34
    subst hv34
    have N34 := Fr.app N25 N34q
    refine own_tr st34 ?_
    show own_Ends _ _ _ _ (T34.setTop (mkF m 124 #[.val (.int z1), .val (.ref b1), .val (.int 4), .val (.int 0)] [(.int 0)]))
    refine own_to (fun _ kont => XS.iloadN X34.here hx rfl (hb hby at_124) rfl kont) ?_
    show own_Ends _ _ _ _ (T34.setTop (mkF m 125 #[.val (.int z1), .val (.ref b1), .val (.int 4), .val (.int 0)] [(.int 0), (.int 0)]))
    refine own_to (fun _ kont => XS.icmpNo X34.here hx rfl (hb hby at_125) rfl (teq (by decide)).2 kont) ?_
    show own_Ends _ _ _ _ (T34.setTop (mkF m 128 #[.val (.int z1), .val (.ref b1), .val (.int 4), .val (.int 0)] []))
    refine own_to (fun _ kont => XS.iconst X34.here hx rfl (hb hby at_128) kont) ?_
    show own_Ends _ _ _ _ (T34.setTop (mkF m 129 #[.val (.int z1), .val (.ref b1), .val (.int 4), .val (.int 0)] [(.int 1)]))
    refine own_to (fun _ kont => XS.goto X34.here hx rfl (pc0 := 129) (pc' := 133) rfl (hb hby at_129) (by decide) (by decide) kont) ?_
    show own_Ends _ _ _ _ (T34.setTop (mkF m 133 #[.val (.int z1), .val (.ref b1), .val (.int 4), .val (.int 0)] [(.int 1)]))
    refine own_leave X34 (v := some (.int (1 : Int32))) (fun h => by rw [Bd.returns] at h; cases h) ?_ (by decide) (by decide) (fun fs hr => retN X34 hx (t := .boolean) Bd.returns (by simp) (hb hby at_133) hr)
    show Q_rm0 Z z1 c0 c1 c2 c3 c4 c5 c6 c7 c8 c9 c10 c11 h0 n0 _ T34.heap _
    rw [E34]
    exact ⟨rfl, N34⟩
  · skip
    show own_Ends _ _ _ _ (T25.setTop (mkF m 91 #[.val (.int z1), .val (.ref b1), .unset, .unset] [(.int 4)]))
    refine own_to (fun _ kont => XS.iconst X25.here hx rfl (hb hby at_91) kont) ?_
    show own_Ends _ _ _ _ (T25.setTop (mkF m 92 #[.val (.int z1), .val (.ref b1), .unset, .unset] [(.int 1), (.int 4)]))
    refine own_to (fun _ kont => XS.iadd X25.here hx rfl (hb hby at_92) rfl kont) ?_
    show own_Ends _ _ _ _ (T25.setTop (mkF m 93 #[.val (.int z1), .val (.ref b1), .unset, .unset] [(.int 5)]))
    refine own_to (fun _ kont => XS.istoreN X25.here hx rfl (hb hby at_93) rfl (l' := #[.val (.int z1), .val (.ref b1), .val (.int (5 : Int32)), .unset]) rfl kont) ?_
    show own_Ends _ _ _ _ (T25.setTop (mkF m 94 #[.val (.int z1), .val (.ref b1), .val (.int 5), .unset] []))
    refine own_to (fun _ kont => XS.iloadN X25.here hx rfl (hb hby at_94) rfl kont) ?_
    show own_Ends _ _ _ _ (T25.setTop (mkF m 95 #[.val (.int z1), .val (.ref b1), .val (.int 5), .unset] [(.int 5)]))
    refine own_to (fun _ kont => XS.iconst X25.here hx rfl (hb hby at_95) kont) ?_
    show own_Ends _ _ _ _ (T25.setTop (mkF m 96 #[.val (.int z1), .val (.ref b1), .val (.int 5), .unset] [(.int 1), (.int 5)]))
    refine own_to (fun _ kont => XS.icmpNo X25.here hx rfl (hb hby at_96) rfl (feq (by decide)).1 kont) ?_
    show own_Ends _ _ _ _ (T25.setTop (mkF m 99 #[.val (.int z1), .val (.ref b1), .val (.int 5), .unset] []))
    refine own_to (fun _ kont => XS.iloadN X25.here hx rfl (hb hby at_99) rfl kont) ?_
    show own_Ends _ _ _ _ (T25.setTop (mkF m 100 #[.val (.int z1), .val (.ref b1), .val (.int 5), .unset] [(.int 5)]))
    refine own_to (fun _ kont => XS.iconst X25.here hx rfl (hb hby at_100) kont) ?_
    show own_Ends _ _ _ _ (T25.setTop (mkF m 101 #[.val (.int z1), .val (.ref b1), .val (.int 5), .unset] [(.int 2), (.int 5)]))
    refine own_to (fun _ kont => XS.icmpNo X25.here hx rfl (hb hby at_101) rfl (feq (by decide)).1 kont) ?_
    show own_Ends _ _ _ _ (T25.setTop (mkF m 104 #[.val (.int z1), .val (.ref b1), .val (.int 5), .unset] []))
    refine own_to (fun _ kont => XS.iloadN X25.here hx rfl (hb hby at_104) rfl kont) ?_
    show own_Ends _ _ _ _ (T25.setTop (mkF m 105 #[.val (.int z1), .val (.ref b1), .val (.int 5), .unset] [(.int 5)]))
    refine own_to (fun _ kont => XS.bipush X25.here hx rfl (hb hby at_105) kont) ?_
    show own_Ends _ _ _ _ (T25.setTop (mkF m 107 #[.val (.int z1), .val (.ref b1), .val (.int 5), .unset] [(.int 8), (.int 5)]))
    refine own_to (fun _ kont => XS.icmpYes X25.here hx rfl (pc0 := 107) (pc' := 114) rfl (hb hby at_107) rfl (feq (by decide)).2 (by decide) (by decide) kont) ?_
    show own_Ends _ _ _ _ (T25.setTop (mkF m 114 #[.val (.int z1), .val (.ref b1), .val (.int 5), .unset] []))
    refine own_to (fun _ kont => XS.iconst X25.here hx rfl (hb hby at_114) kont) ?_
    show own_Ends _ _ _ _ (T25.setTop (mkF m 115 #[.val (.int z1), .val (.ref b1), .val (.int 5), .unset] [(.int 0)]))
    refine own_to (fun _ kont => XS.istoreN X25.here hx rfl (hb hby at_115) rfl (l' := #[.val (.int z1), .val (.ref b1), .val (.int (5 : Int32)), .val (.int (0 : Int32))]) rfl kont) ?_
    show own_Ends _ _ _ _ (T25.setTop (mkF m 116 #[.val (.int z1), .val (.ref b1), .val (.int 5), .val (.int 0)] []))
    refine own_to (fun _ kont => XS.aloadN X25.here hx rfl (hb hby at_116) rfl rfl kont) ?_
    show own_Ends _ _ _ _ (T25.setTop (mkF m 117 #[.val (.int z1), .val (.ref b1), .val (.int 5), .val (.int 0)] [(.ref b1)]))
    refine own_to (fun _ kont => XS.iloadN X25.here hx rfl (hb hby at_117) rfl kont) ?_
    show own_Ends _ _ _ _ (T25.setTop (mkF m 118 #[.val (.int z1), .val (.ref b1), .val (.int 5), .val (.int 0)] [(.int 5), (.ref b1)]))
    refine own_to (fun _ kont => XS.iconst X25.here hx rfl (hb hby at_118) kont) ?_
    show own_Ends _ _ _ _ (T25.setTop (mkF m 119 #[.val (.int z1), .val (.ref b1), .val (.int 5), .val (.int 0)] [(.int 1), (.int 5), (.ref b1)]))
    refine own_to (fun _ kont => XS.isub X25.here hx rfl (hb hby at_119) rfl kont) ?_
    show own_Ends _ _ _ _ (T25.setTop (mkF m 120 #[.val (.int z1), .val (.ref b1), .val (.int 5), .val (.int 0)] [(.int 4), (.ref b1)]))
    obtain ⟨cl35, Ar35, q35, S35, M35, H35, G35⟩ := Vs25
    have hin35 : ¬ ((4 : Int32) < 0 ∨ cl35.slots.size ≤ ((4 : Int32)).toNatClampNeg) := inb_of S35 ⟨by decide, by decide⟩
    have hat35 : cl35.slots[((4 : Int32)).toNatClampNeg]? = some (.ref c4) := Has.at H35 hin35 rfl
    refine own_to (fun _ kont => X25.aaload hx (j := (4 : Int32)) (v := (.ref c4)) (by rw [e25]; exact Ar35.1) (State.isArrayOf_alike hZ.alike Ar35.2.1) rfl Ar35.2.2 hin35 hat35 (g := (mkF m 120 #[.val (.int z1), .val (.ref b1), .val (.int (5 : Int32)), .val (.int (0 : Int32))] [(.int (4 : Int32)), (.ref b1)])) rfl rfl (hb hby at_120) _ kont) ?_
    show own_Ends _ _ _ _ (T25.setTop (mkF m 121 #[.val (.int z1), .val (.ref b1), .val (.int 5), .val (.int 0)] [(.ref c4)]))
    obtain ⟨cq36, kq36, q36a, q36b, q36c⟩ := isOf hZ e25 (E_c4.ext O25.2)
    obtain ⟨_, _, ⟨T36, L36, k36, n36⟩, -, X36, ⟨Lc36, hQ36, l36, y36, z36⟩, st36⟩ := X25.virtualBack hx (y := oM0) (z := oM0) hown (mvT hZ (ow29 hw)) (mvT hZ (ow30 hw)) (notFace_of_selects (args := #[]) (mvT hZ (ow32 hw))) (mvT hZ (ow32 hw)) (mvT hZ (ow31 hw)) (by decide) (backOf (W := 0) (rm2 l Z a0 hw [] c4 c0 c1 c7 h25 n0 O25 S_c0 S_c1 S_c7) hZ (ow33 hw) (ow3 hw) (by decide) (by decide)) q36a q36c (g := (mkF m 121 #[.val (.int z1), .val (.ref b1), .val (.int (5 : Int32)), .val (.int (0 : Int32))] [(.ref c4)])) rfl (by rw [hml]; rfl) (Steps.refl _) (argsL := []) (rest := []) (lenOf pd_0 rfl) rfl (by show 2 * 0 + _ ≤ _; exact Nat.le_of_eq rfl) (hb hby at_121) (fun _ _ => ⟨rfl, e25, (own_le rfl), (own_le rfl)⟩)
    dsimp only [Pt.U, Pt.locs, Pt.cells, Pt.slots] at X36 l36 y36 z36 st36 hQ36
    subst l36 y36 z36
    obtain ⟨hv36, N36q, E36⟩ := hQ36
    rw [own_is_no (Fld.ne F_c4 F_c0 (own_intne (by decide))) (Fld.ne F_c4 F_c1 (own_intne (by decide))) (Fld.ne F_c4 F_c7 (own_intne (by decide)))] at hv36
    subst hv36
    have N36 := Fr.app N25 N36q
    refine own_tr st36 ?_
    show own_Ends _ _ _ _ (T36.setTop (mkF m 124 #[.val (.int z1), .val (.ref b1), .val (.int 5), .val (.int 0)] [(.int 0)]))
    refine own_to (fun _ kont => XS.iloadN X36.here hx rfl (hb hby at_124) rfl kont) ?_
    show own_Ends _ _ _ _ (T36.setTop (mkF m 125 #[.val (.int z1), .val (.ref b1), .val (.int 5), .val (.int 0)] [(.int 0), (.int 0)]))
    refine own_to (fun _ kont => XS.icmpNo X36.here hx rfl (hb hby at_125) rfl (teq (by decide)).2 kont) ?_
    show own_Ends _ _ _ _ (T36.setTop (mkF m 128 #[.val (.int z1), .val (.ref b1), .val (.int 5), .val (.int 0)] []))
    refine own_to (fun _ kont => XS.iconst X36.here hx rfl (hb hby at_128) kont) ?_
    show own_Ends _ _ _ _ (T36.setTop (mkF m 129 #[.val (.int z1), .val (.ref b1), .val (.int 5), .val (.int 0)] [(.int 1)]))
    refine own_to (fun _ kont => XS.goto X36.here hx rfl (pc0 := 129) (pc' := 133) rfl (hb hby at_129) (by decide) (by decide) kont) ?_
    show own_Ends _ _ _ _ (T36.setTop (mkF m 133 #[.val (.int z1), .val (.ref b1), .val (.int 5), .val (.int 0)] [(.int 1)]))
    refine own_leave X36 (v := some (.int (1 : Int32))) (fun h => by rw [Bd.returns] at h; cases h) ?_ (by decide) (by decide) (fun fs hr => retN X36 hx (t := .boolean) Bd.returns (by simp) (hb hby at_133) hr)
    show Q_rm0 Z z1 c0 c1 c2 c3 c4 c5 c6 c7 c8 c9 c10 c11 h0 n0 _ T36.heap _
    rw [E36]
    exact ⟨rfl, N36⟩
  · skip
    show own_Ends _ _ _ _ (T25.setTop (mkF m 91 #[.val (.int z1), .val (.ref b1), .unset, .unset] [(.int 5)]))
    refine own_to (fun _ kont => XS.iconst X25.here hx rfl (hb hby at_91) kont) ?_
    show own_Ends _ _ _ _ (T25.setTop (mkF m 92 #[.val (.int z1), .val (.ref b1), .unset, .unset] [(.int 1), (.int 5)]))
    refine own_to (fun _ kont => XS.iadd X25.here hx rfl (hb hby at_92) rfl kont) ?_
    show own_Ends _ _ _ _ (T25.setTop (mkF m 93 #[.val (.int z1), .val (.ref b1), .unset, .unset] [(.int 6)]))
    refine own_to (fun _ kont => XS.istoreN X25.here hx rfl (hb hby at_93) rfl (l' := #[.val (.int z1), .val (.ref b1), .val (.int (6 : Int32)), .unset]) rfl kont) ?_
    show own_Ends _ _ _ _ (T25.setTop (mkF m 94 #[.val (.int z1), .val (.ref b1), .val (.int 6), .unset] []))
    refine own_to (fun _ kont => XS.iloadN X25.here hx rfl (hb hby at_94) rfl kont) ?_
    show own_Ends _ _ _ _ (T25.setTop (mkF m 95 #[.val (.int z1), .val (.ref b1), .val (.int 6), .unset] [(.int 6)]))
    refine own_to (fun _ kont => XS.iconst X25.here hx rfl (hb hby at_95) kont) ?_
    show own_Ends _ _ _ _ (T25.setTop (mkF m 96 #[.val (.int z1), .val (.ref b1), .val (.int 6), .unset] [(.int 1), (.int 6)]))
    refine own_to (fun _ kont => XS.icmpNo X25.here hx rfl (hb hby at_96) rfl (feq (by decide)).1 kont) ?_
    show own_Ends _ _ _ _ (T25.setTop (mkF m 99 #[.val (.int z1), .val (.ref b1), .val (.int 6), .unset] []))
    refine own_to (fun _ kont => XS.iloadN X25.here hx rfl (hb hby at_99) rfl kont) ?_
    show own_Ends _ _ _ _ (T25.setTop (mkF m 100 #[.val (.int z1), .val (.ref b1), .val (.int 6), .unset] [(.int 6)]))
    refine own_to (fun _ kont => XS.iconst X25.here hx rfl (hb hby at_100) kont) ?_
    show own_Ends _ _ _ _ (T25.setTop (mkF m 101 #[.val (.int z1), .val (.ref b1), .val (.int 6), .unset] [(.int 2), (.int 6)]))
    refine own_to (fun _ kont => XS.icmpNo X25.here hx rfl (hb hby at_101) rfl (feq (by decide)).1 kont) ?_
    show own_Ends _ _ _ _ (T25.setTop (mkF m 104 #[.val (.int z1), .val (.ref b1), .val (.int 6), .unset] []))
    refine own_to (fun _ kont => XS.iloadN X25.here hx rfl (hb hby at_104) rfl kont) ?_
    show own_Ends _ _ _ _ (T25.setTop (mkF m 105 #[.val (.int z1), .val (.ref b1), .val (.int 6), .unset] [(.int 6)]))
    refine own_to (fun _ kont => XS.bipush X25.here hx rfl (hb hby at_105) kont) ?_
    show own_Ends _ _ _ _ (T25.setTop (mkF m 107 #[.val (.int z1), .val (.ref b1), .val (.int 6), .unset] [(.int 8), (.int 6)]))
    refine own_to (fun _ kont => XS.icmpYes X25.here hx rfl (pc0 := 107) (pc' := 114) rfl (hb hby at_107) rfl (feq (by decide)).2 (by decide) (by decide) kont) ?_
    show own_Ends _ _ _ _ (T25.setTop (mkF m 114 #[.val (.int z1), .val (.ref b1), .val (.int 6), .unset] []))
    refine own_to (fun _ kont => XS.iconst X25.here hx rfl (hb hby at_114) kont) ?_
    show own_Ends _ _ _ _ (T25.setTop (mkF m 115 #[.val (.int z1), .val (.ref b1), .val (.int 6), .unset] [(.int 0)]))
    refine own_to (fun _ kont => XS.istoreN X25.here hx rfl (hb hby at_115) rfl (l' := #[.val (.int z1), .val (.ref b1), .val (.int (6 : Int32)), .val (.int (0 : Int32))]) rfl kont) ?_
    show own_Ends _ _ _ _ (T25.setTop (mkF m 116 #[.val (.int z1), .val (.ref b1), .val (.int 6), .val (.int 0)] []))
    refine own_to (fun _ kont => XS.aloadN X25.here hx rfl (hb hby at_116) rfl rfl kont) ?_
    show own_Ends _ _ _ _ (T25.setTop (mkF m 117 #[.val (.int z1), .val (.ref b1), .val (.int 6), .val (.int 0)] [(.ref b1)]))
    refine own_to (fun _ kont => XS.iloadN X25.here hx rfl (hb hby at_117) rfl kont) ?_
    show own_Ends _ _ _ _ (T25.setTop (mkF m 118 #[.val (.int z1), .val (.ref b1), .val (.int 6), .val (.int 0)] [(.int 6), (.ref b1)]))
    refine own_to (fun _ kont => XS.iconst X25.here hx rfl (hb hby at_118) kont) ?_
    show own_Ends _ _ _ _ (T25.setTop (mkF m 119 #[.val (.int z1), .val (.ref b1), .val (.int 6), .val (.int 0)] [(.int 1), (.int 6), (.ref b1)]))
    refine own_to (fun _ kont => XS.isub X25.here hx rfl (hb hby at_119) rfl kont) ?_
    show own_Ends _ _ _ _ (T25.setTop (mkF m 120 #[.val (.int z1), .val (.ref b1), .val (.int 6), .val (.int 0)] [(.int 5), (.ref b1)]))
    obtain ⟨cl37, Ar37, q37, S37, M37, H37, G37⟩ := Vs25
    have hin37 : ¬ ((5 : Int32) < 0 ∨ cl37.slots.size ≤ ((5 : Int32)).toNatClampNeg) := inb_of S37 ⟨by decide, by decide⟩
    have hat37 : cl37.slots[((5 : Int32)).toNatClampNeg]? = some (.ref c5) := Has.at H37 hin37 rfl
    refine own_to (fun _ kont => X25.aaload hx (j := (5 : Int32)) (v := (.ref c5)) (by rw [e25]; exact Ar37.1) (State.isArrayOf_alike hZ.alike Ar37.2.1) rfl Ar37.2.2 hin37 hat37 (g := (mkF m 120 #[.val (.int z1), .val (.ref b1), .val (.int (6 : Int32)), .val (.int (0 : Int32))] [(.int (5 : Int32)), (.ref b1)])) rfl rfl (hb hby at_120) _ kont) ?_
    show own_Ends _ _ _ _ (T25.setTop (mkF m 121 #[.val (.int z1), .val (.ref b1), .val (.int 6), .val (.int 0)] [(.ref c5)]))
    obtain ⟨cq38, kq38, q38a, q38b, q38c⟩ := isOf hZ e25 (E_c5.ext O25.2)
    obtain ⟨_, _, ⟨T38, L38, k38, n38⟩, -, X38, ⟨Lc38, hQ38, l38, y38, z38⟩, st38⟩ := X25.virtualBack hx (y := oM0) (z := oM0) hown (mvT hZ (ow29 hw)) (mvT hZ (ow30 hw)) (notFace_of_selects (args := #[]) (mvT hZ (ow32 hw))) (mvT hZ (ow32 hw)) (mvT hZ (ow31 hw)) (by decide) (backOf (W := 0) (rm2 l Z a0 hw [] c5 c0 c1 c7 h25 n0 O25 S_c0 S_c1 S_c7) hZ (ow33 hw) (ow3 hw) (by decide) (by decide)) q38a q38c (g := (mkF m 121 #[.val (.int z1), .val (.ref b1), .val (.int (6 : Int32)), .val (.int (0 : Int32))] [(.ref c5)])) rfl (by rw [hml]; rfl) (Steps.refl _) (argsL := []) (rest := []) (lenOf pd_0 rfl) rfl (by show 2 * 0 + _ ≤ _; exact Nat.le_of_eq rfl) (hb hby at_121) (fun _ _ => ⟨rfl, e25, (own_le rfl), (own_le rfl)⟩)
    dsimp only [Pt.U, Pt.locs, Pt.cells, Pt.slots] at X38 l38 y38 z38 st38 hQ38
    subst l38 y38 z38
    obtain ⟨hv38, N38q, E38⟩ := hQ38
    rw [own_is_no (Fld.ne F_c5 F_c0 (own_intne (by decide))) (Fld.ne F_c5 F_c1 (own_intne (by decide))) (Fld.ne F_c5 F_c7 (own_intne (by decide)))] at hv38
    subst hv38
    have N38 := Fr.app N25 N38q
    refine own_tr st38 ?_
    show own_Ends _ _ _ _ (T38.setTop (mkF m 124 #[.val (.int z1), .val (.ref b1), .val (.int 6), .val (.int 0)] [(.int 0)]))
    refine own_to (fun _ kont => XS.iloadN X38.here hx rfl (hb hby at_124) rfl kont) ?_
    show own_Ends _ _ _ _ (T38.setTop (mkF m 125 #[.val (.int z1), .val (.ref b1), .val (.int 6), .val (.int 0)] [(.int 0), (.int 0)]))
    refine own_to (fun _ kont => XS.icmpNo X38.here hx rfl (hb hby at_125) rfl (teq (by decide)).2 kont) ?_
    show own_Ends _ _ _ _ (T38.setTop (mkF m 128 #[.val (.int z1), .val (.ref b1), .val (.int 6), .val (.int 0)] []))
    refine own_to (fun _ kont => XS.iconst X38.here hx rfl (hb hby at_128) kont) ?_
    show own_Ends _ _ _ _ (T38.setTop (mkF m 129 #[.val (.int z1), .val (.ref b1), .val (.int 6), .val (.int 0)] [(.int 1)]))
    refine own_to (fun _ kont => XS.goto X38.here hx rfl (pc0 := 129) (pc' := 133) rfl (hb hby at_129) (by decide) (by decide) kont) ?_
    show own_Ends _ _ _ _ (T38.setTop (mkF m 133 #[.val (.int z1), .val (.ref b1), .val (.int 6), .val (.int 0)] [(.int 1)]))
    refine own_leave X38 (v := some (.int (1 : Int32))) (fun h => by rw [Bd.returns] at h; cases h) ?_ (by decide) (by decide) (fun fs hr => retN X38 hx (t := .boolean) Bd.returns (by simp) (hb hby at_133) hr)
    show Q_rm0 Z z1 c0 c1 c2 c3 c4 c5 c6 c7 c8 c9 c10 c11 h0 n0 _ T38.heap _
    rw [E38]
    exact ⟨rfl, N38⟩
  · skip
    show own_Ends _ _ _ _ (T25.setTop (mkF m 91 #[.val (.int z1), .val (.ref b1), .unset, .unset] [(.int 6)]))
    refine own_to (fun _ kont => XS.iconst X25.here hx rfl (hb hby at_91) kont) ?_
    show own_Ends _ _ _ _ (T25.setTop (mkF m 92 #[.val (.int z1), .val (.ref b1), .unset, .unset] [(.int 1), (.int 6)]))
    refine own_to (fun _ kont => XS.iadd X25.here hx rfl (hb hby at_92) rfl kont) ?_
    show own_Ends _ _ _ _ (T25.setTop (mkF m 93 #[.val (.int z1), .val (.ref b1), .unset, .unset] [(.int 7)]))
    refine own_to (fun _ kont => XS.istoreN X25.here hx rfl (hb hby at_93) rfl (l' := #[.val (.int z1), .val (.ref b1), .val (.int (7 : Int32)), .unset]) rfl kont) ?_
    show own_Ends _ _ _ _ (T25.setTop (mkF m 94 #[.val (.int z1), .val (.ref b1), .val (.int 7), .unset] []))
    refine own_to (fun _ kont => XS.iloadN X25.here hx rfl (hb hby at_94) rfl kont) ?_
    show own_Ends _ _ _ _ (T25.setTop (mkF m 95 #[.val (.int z1), .val (.ref b1), .val (.int 7), .unset] [(.int 7)]))
    refine own_to (fun _ kont => XS.iconst X25.here hx rfl (hb hby at_95) kont) ?_
    show own_Ends _ _ _ _ (T25.setTop (mkF m 96 #[.val (.int z1), .val (.ref b1), .val (.int 7), .unset] [(.int 1), (.int 7)]))
    refine own_to (fun _ kont => XS.icmpNo X25.here hx rfl (hb hby at_96) rfl (feq (by decide)).1 kont) ?_
    show own_Ends _ _ _ _ (T25.setTop (mkF m 99 #[.val (.int z1), .val (.ref b1), .val (.int 7), .unset] []))
    refine own_to (fun _ kont => XS.iloadN X25.here hx rfl (hb hby at_99) rfl kont) ?_
    show own_Ends _ _ _ _ (T25.setTop (mkF m 100 #[.val (.int z1), .val (.ref b1), .val (.int 7), .unset] [(.int 7)]))
    refine own_to (fun _ kont => XS.iconst X25.here hx rfl (hb hby at_100) kont) ?_
    show own_Ends _ _ _ _ (T25.setTop (mkF m 101 #[.val (.int z1), .val (.ref b1), .val (.int 7), .unset] [(.int 2), (.int 7)]))
    refine own_to (fun _ kont => XS.icmpNo X25.here hx rfl (hb hby at_101) rfl (feq (by decide)).1 kont) ?_
    show own_Ends _ _ _ _ (T25.setTop (mkF m 104 #[.val (.int z1), .val (.ref b1), .val (.int 7), .unset] []))
    refine own_to (fun _ kont => XS.iloadN X25.here hx rfl (hb hby at_104) rfl kont) ?_
    show own_Ends _ _ _ _ (T25.setTop (mkF m 105 #[.val (.int z1), .val (.ref b1), .val (.int 7), .unset] [(.int 7)]))
    refine own_to (fun _ kont => XS.bipush X25.here hx rfl (hb hby at_105) kont) ?_
    show own_Ends _ _ _ _ (T25.setTop (mkF m 107 #[.val (.int z1), .val (.ref b1), .val (.int 7), .unset] [(.int 8), (.int 7)]))
    refine own_to (fun _ kont => XS.icmpYes X25.here hx rfl (pc0 := 107) (pc' := 114) rfl (hb hby at_107) rfl (feq (by decide)).2 (by decide) (by decide) kont) ?_
    show own_Ends _ _ _ _ (T25.setTop (mkF m 114 #[.val (.int z1), .val (.ref b1), .val (.int 7), .unset] []))
    refine own_to (fun _ kont => XS.iconst X25.here hx rfl (hb hby at_114) kont) ?_
    show own_Ends _ _ _ _ (T25.setTop (mkF m 115 #[.val (.int z1), .val (.ref b1), .val (.int 7), .unset] [(.int 0)]))
    refine own_to (fun _ kont => XS.istoreN X25.here hx rfl (hb hby at_115) rfl (l' := #[.val (.int z1), .val (.ref b1), .val (.int (7 : Int32)), .val (.int (0 : Int32))]) rfl kont) ?_
    show own_Ends _ _ _ _ (T25.setTop (mkF m 116 #[.val (.int z1), .val (.ref b1), .val (.int 7), .val (.int 0)] []))
    refine own_to (fun _ kont => XS.aloadN X25.here hx rfl (hb hby at_116) rfl rfl kont) ?_
    show own_Ends _ _ _ _ (T25.setTop (mkF m 117 #[.val (.int z1), .val (.ref b1), .val (.int 7), .val (.int 0)] [(.ref b1)]))
    refine own_to (fun _ kont => XS.iloadN X25.here hx rfl (hb hby at_117) rfl kont) ?_
    show own_Ends _ _ _ _ (T25.setTop (mkF m 118 #[.val (.int z1), .val (.ref b1), .val (.int 7), .val (.int 0)] [(.int 7), (.ref b1)]))
    refine own_to (fun _ kont => XS.iconst X25.here hx rfl (hb hby at_118) kont) ?_
    show own_Ends _ _ _ _ (T25.setTop (mkF m 119 #[.val (.int z1), .val (.ref b1), .val (.int 7), .val (.int 0)] [(.int 1), (.int 7), (.ref b1)]))
    refine own_to (fun _ kont => XS.isub X25.here hx rfl (hb hby at_119) rfl kont) ?_
    show own_Ends _ _ _ _ (T25.setTop (mkF m 120 #[.val (.int z1), .val (.ref b1), .val (.int 7), .val (.int 0)] [(.int 6), (.ref b1)]))
    obtain ⟨cl39, Ar39, q39, S39, M39, H39, G39⟩ := Vs25
    have hin39 : ¬ ((6 : Int32) < 0 ∨ cl39.slots.size ≤ ((6 : Int32)).toNatClampNeg) := inb_of S39 ⟨by decide, by decide⟩
    have hat39 : cl39.slots[((6 : Int32)).toNatClampNeg]? = some (.ref c6) := Has.at H39 hin39 rfl
    refine own_to (fun _ kont => X25.aaload hx (j := (6 : Int32)) (v := (.ref c6)) (by rw [e25]; exact Ar39.1) (State.isArrayOf_alike hZ.alike Ar39.2.1) rfl Ar39.2.2 hin39 hat39 (g := (mkF m 120 #[.val (.int z1), .val (.ref b1), .val (.int (7 : Int32)), .val (.int (0 : Int32))] [(.int (6 : Int32)), (.ref b1)])) rfl rfl (hb hby at_120) _ kont) ?_
    show own_Ends _ _ _ _ (T25.setTop (mkF m 121 #[.val (.int z1), .val (.ref b1), .val (.int 7), .val (.int 0)] [(.ref c6)]))
    obtain ⟨cq40, kq40, q40a, q40b, q40c⟩ := isOf hZ e25 (E_c6.ext O25.2)
    obtain ⟨_, _, ⟨T40, L40, k40, n40⟩, -, X40, ⟨Lc40, hQ40, l40, y40, z40⟩, st40⟩ := X25.virtualBack hx (y := oM0) (z := oM0) hown (mvT hZ (ow29 hw)) (mvT hZ (ow30 hw)) (notFace_of_selects (args := #[]) (mvT hZ (ow32 hw))) (mvT hZ (ow32 hw)) (mvT hZ (ow31 hw)) (by decide) (backOf (W := 0) (rm2 l Z a0 hw [] c6 c0 c1 c7 h25 n0 O25 S_c0 S_c1 S_c7) hZ (ow33 hw) (ow3 hw) (by decide) (by decide)) q40a q40c (g := (mkF m 121 #[.val (.int z1), .val (.ref b1), .val (.int (7 : Int32)), .val (.int (0 : Int32))] [(.ref c6)])) rfl (by rw [hml]; rfl) (Steps.refl _) (argsL := []) (rest := []) (lenOf pd_0 rfl) rfl (by show 2 * 0 + _ ≤ _; exact Nat.le_of_eq rfl) (hb hby at_121) (fun _ _ => ⟨rfl, e25, (own_le rfl), (own_le rfl)⟩)
    dsimp only [Pt.U, Pt.locs, Pt.cells, Pt.slots] at X40 l40 y40 z40 st40 hQ40
    subst l40 y40 z40
    obtain ⟨hv40, N40q, E40⟩ := hQ40
    rw [own_is_no (Fld.ne F_c6 F_c0 (own_intne (by decide))) (Fld.ne F_c6 F_c1 (own_intne (by decide))) (Fld.ne F_c6 F_c7 (own_intne (by decide)))] at hv40
    subst hv40
    have N40 := Fr.app N25 N40q
    refine own_tr st40 ?_
    show own_Ends _ _ _ _ (T40.setTop (mkF m 124 #[.val (.int z1), .val (.ref b1), .val (.int 7), .val (.int 0)] [(.int 0)]))
    refine own_to (fun _ kont => XS.iloadN X40.here hx rfl (hb hby at_124) rfl kont) ?_
    show own_Ends _ _ _ _ (T40.setTop (mkF m 125 #[.val (.int z1), .val (.ref b1), .val (.int 7), .val (.int 0)] [(.int 0), (.int 0)]))
    refine own_to (fun _ kont => XS.icmpNo X40.here hx rfl (hb hby at_125) rfl (teq (by decide)).2 kont) ?_
    show own_Ends _ _ _ _ (T40.setTop (mkF m 128 #[.val (.int z1), .val (.ref b1), .val (.int 7), .val (.int 0)] []))
    refine own_to (fun _ kont => XS.iconst X40.here hx rfl (hb hby at_128) kont) ?_
    show own_Ends _ _ _ _ (T40.setTop (mkF m 129 #[.val (.int z1), .val (.ref b1), .val (.int 7), .val (.int 0)] [(.int 1)]))
    refine own_to (fun _ kont => XS.goto X40.here hx rfl (pc0 := 129) (pc' := 133) rfl (hb hby at_129) (by decide) (by decide) kont) ?_
    show own_Ends _ _ _ _ (T40.setTop (mkF m 133 #[.val (.int z1), .val (.ref b1), .val (.int 7), .val (.int 0)] [(.int 1)]))
    refine own_leave X40 (v := some (.int (1 : Int32))) (fun h => by rw [Bd.returns] at h; cases h) ?_ (by decide) (by decide) (fun fs hr => retN X40 hx (t := .boolean) Bd.returns (by simp) (hb hby at_133) hr)
    show Q_rm0 Z z1 c0 c1 c2 c3 c4 c5 c6 c7 c8 c9 c10 c11 h0 n0 _ T40.heap _
    rw [E40]
    exact ⟨rfl, N40⟩
  · skip
    show own_Ends _ _ _ _ (T25.setTop (mkF m 91 #[.val (.int z1), .val (.ref b1), .unset, .unset] [(.int 7)]))
    refine own_to (fun _ kont => XS.iconst X25.here hx rfl (hb hby at_91) kont) ?_
    show own_Ends _ _ _ _ (T25.setTop (mkF m 92 #[.val (.int z1), .val (.ref b1), .unset, .unset] [(.int 1), (.int 7)]))
    refine own_to (fun _ kont => XS.iadd X25.here hx rfl (hb hby at_92) rfl kont) ?_
    show own_Ends _ _ _ _ (T25.setTop (mkF m 93 #[.val (.int z1), .val (.ref b1), .unset, .unset] [(.int 8)]))
    refine own_to (fun _ kont => XS.istoreN X25.here hx rfl (hb hby at_93) rfl (l' := #[.val (.int z1), .val (.ref b1), .val (.int (8 : Int32)), .unset]) rfl kont) ?_
    show own_Ends _ _ _ _ (T25.setTop (mkF m 94 #[.val (.int z1), .val (.ref b1), .val (.int 8), .unset] []))
    refine own_to (fun _ kont => XS.iloadN X25.here hx rfl (hb hby at_94) rfl kont) ?_
    show own_Ends _ _ _ _ (T25.setTop (mkF m 95 #[.val (.int z1), .val (.ref b1), .val (.int 8), .unset] [(.int 8)]))
    refine own_to (fun _ kont => XS.iconst X25.here hx rfl (hb hby at_95) kont) ?_
    show own_Ends _ _ _ _ (T25.setTop (mkF m 96 #[.val (.int z1), .val (.ref b1), .val (.int 8), .unset] [(.int 1), (.int 8)]))
    refine own_to (fun _ kont => XS.icmpNo X25.here hx rfl (hb hby at_96) rfl (feq (by decide)).1 kont) ?_
    show own_Ends _ _ _ _ (T25.setTop (mkF m 99 #[.val (.int z1), .val (.ref b1), .val (.int 8), .unset] []))
    refine own_to (fun _ kont => XS.iloadN X25.here hx rfl (hb hby at_99) rfl kont) ?_
    show own_Ends _ _ _ _ (T25.setTop (mkF m 100 #[.val (.int z1), .val (.ref b1), .val (.int 8), .unset] [(.int 8)]))
    refine own_to (fun _ kont => XS.iconst X25.here hx rfl (hb hby at_100) kont) ?_
    show own_Ends _ _ _ _ (T25.setTop (mkF m 101 #[.val (.int z1), .val (.ref b1), .val (.int 8), .unset] [(.int 2), (.int 8)]))
    refine own_to (fun _ kont => XS.icmpNo X25.here hx rfl (hb hby at_101) rfl (feq (by decide)).1 kont) ?_
    show own_Ends _ _ _ _ (T25.setTop (mkF m 104 #[.val (.int z1), .val (.ref b1), .val (.int 8), .unset] []))
    refine own_to (fun _ kont => XS.iloadN X25.here hx rfl (hb hby at_104) rfl kont) ?_
    show own_Ends _ _ _ _ (T25.setTop (mkF m 105 #[.val (.int z1), .val (.ref b1), .val (.int 8), .unset] [(.int 8)]))
    refine own_to (fun _ kont => XS.bipush X25.here hx rfl (hb hby at_105) kont) ?_
    show own_Ends _ _ _ _ (T25.setTop (mkF m 107 #[.val (.int z1), .val (.ref b1), .val (.int 8), .unset] [(.int 8), (.int 8)]))
    refine own_to (fun _ kont => XS.icmpNo X25.here hx rfl (hb hby at_107) rfl (teq (by decide)).2 kont) ?_
    show own_Ends _ _ _ _ (T25.setTop (mkF m 110 #[.val (.int z1), .val (.ref b1), .val (.int 8), .unset] []))
    refine own_to (fun _ kont => XS.iconst X25.here hx rfl (hb hby at_110) kont) ?_
    show own_Ends _ _ _ _ (T25.setTop (mkF m 111 #[.val (.int z1), .val (.ref b1), .val (.int 8), .unset] [(.int 1)]))
    refine own_to (fun _ kont => XS.goto X25.here hx rfl (pc0 := 111) (pc' := 115) rfl (hb hby at_111) (by decide) (by decide) kont) ?_
    show own_Ends _ _ _ _ (T25.setTop (mkF m 115 #[.val (.int z1), .val (.ref b1), .val (.int 8), .unset] [(.int 1)]))
    refine own_to (fun _ kont => XS.istoreN X25.here hx rfl (hb hby at_115) rfl (l' := #[.val (.int z1), .val (.ref b1), .val (.int (8 : Int32)), .val (.int (1 : Int32))]) rfl kont) ?_
    show own_Ends _ _ _ _ (T25.setTop (mkF m 116 #[.val (.int z1), .val (.ref b1), .val (.int 8), .val (.int 1)] []))
    refine own_to (fun _ kont => XS.aloadN X25.here hx rfl (hb hby at_116) rfl rfl kont) ?_
    show own_Ends _ _ _ _ (T25.setTop (mkF m 117 #[.val (.int z1), .val (.ref b1), .val (.int 8), .val (.int 1)] [(.ref b1)]))
    refine own_to (fun _ kont => XS.iloadN X25.here hx rfl (hb hby at_117) rfl kont) ?_
    show own_Ends _ _ _ _ (T25.setTop (mkF m 118 #[.val (.int z1), .val (.ref b1), .val (.int 8), .val (.int 1)] [(.int 8), (.ref b1)]))
    refine own_to (fun _ kont => XS.iconst X25.here hx rfl (hb hby at_118) kont) ?_
    show own_Ends _ _ _ _ (T25.setTop (mkF m 119 #[.val (.int z1), .val (.ref b1), .val (.int 8), .val (.int 1)] [(.int 1), (.int 8), (.ref b1)]))
    refine own_to (fun _ kont => XS.isub X25.here hx rfl (hb hby at_119) rfl kont) ?_
    show own_Ends _ _ _ _ (T25.setTop (mkF m 120 #[.val (.int z1), .val (.ref b1), .val (.int 8), .val (.int 1)] [(.int 7), (.ref b1)]))
    obtain ⟨cl41, Ar41, q41, S41, M41, H41, G41⟩ := Vs25
    have hin41 : ¬ ((7 : Int32) < 0 ∨ cl41.slots.size ≤ ((7 : Int32)).toNatClampNeg) := inb_of S41 ⟨by decide, by decide⟩
    have hat41 : cl41.slots[((7 : Int32)).toNatClampNeg]? = some (.ref c7) := Has.at H41 hin41 rfl
    refine own_to (fun _ kont => X25.aaload hx (j := (7 : Int32)) (v := (.ref c7)) (by rw [e25]; exact Ar41.1) (State.isArrayOf_alike hZ.alike Ar41.2.1) rfl Ar41.2.2 hin41 hat41 (g := (mkF m 120 #[.val (.int z1), .val (.ref b1), .val (.int (8 : Int32)), .val (.int (1 : Int32))] [(.int (7 : Int32)), (.ref b1)])) rfl rfl (hb hby at_120) _ kont) ?_
    show own_Ends _ _ _ _ (T25.setTop (mkF m 121 #[.val (.int z1), .val (.ref b1), .val (.int 8), .val (.int 1)] [(.ref c7)]))
    obtain ⟨cq42, kq42, q42a, q42b, q42c⟩ := isOf hZ e25 (E_c7.ext O25.2)
    obtain ⟨_, _, ⟨T42, L42, k42, n42⟩, -, X42, ⟨Lc42, hQ42, l42, y42, z42⟩, st42⟩ := X25.virtualBack hx (y := oM0) (z := oM0) hown (mvT hZ (ow29 hw)) (mvT hZ (ow30 hw)) (notFace_of_selects (args := #[]) (mvT hZ (ow32 hw))) (mvT hZ (ow32 hw)) (mvT hZ (ow31 hw)) (by decide) (backOf (W := 0) (rm2 l Z a0 hw [] c7 c0 c1 c7 h25 n0 O25 S_c0 S_c1 S_c7) hZ (ow33 hw) (ow3 hw) (by decide) (by decide)) q42a q42c (g := (mkF m 121 #[.val (.int z1), .val (.ref b1), .val (.int (8 : Int32)), .val (.int (1 : Int32))] [(.ref c7)])) rfl (by rw [hml]; rfl) (Steps.refl _) (argsL := []) (rest := []) (lenOf pd_0 rfl) rfl (by show 2 * 0 + _ ≤ _; exact Nat.le_of_eq rfl) (hb hby at_121) (fun _ _ => ⟨rfl, e25, (own_le rfl), (own_le rfl)⟩)
    dsimp only [Pt.U, Pt.locs, Pt.cells, Pt.slots] at X42 l42 y42 z42 st42 hQ42
    subst l42 y42 z42
    obtain ⟨hv42, N42q, E42⟩ := hQ42
    rw [own_is_yes (by simp)] at hv42
    subst hv42
    have N42 := Fr.app N25 N42q
    refine own_tr st42 ?_
    show own_Ends _ _ _ _ (T42.setTop (mkF m 124 #[.val (.int z1), .val (.ref b1), .val (.int 8), .val (.int 1)] [(.int 1)]))
    refine own_to (fun _ kont => XS.iloadN X42.here hx rfl (hb hby at_124) rfl kont) ?_
    show own_Ends _ _ _ _ (T42.setTop (mkF m 125 #[.val (.int z1), .val (.ref b1), .val (.int 8), .val (.int 1)] [(.int 1), (.int 1)]))
    refine own_to (fun _ kont => XS.icmpNo X42.here hx rfl (hb hby at_125) rfl (teq (by decide)).2 kont) ?_
    show own_Ends _ _ _ _ (T42.setTop (mkF m 128 #[.val (.int z1), .val (.ref b1), .val (.int 8), .val (.int 1)] []))
    refine own_to (fun _ kont => XS.iconst X42.here hx rfl (hb hby at_128) kont) ?_
    show own_Ends _ _ _ _ (T42.setTop (mkF m 129 #[.val (.int z1), .val (.ref b1), .val (.int 8), .val (.int 1)] [(.int 1)]))
    refine own_to (fun _ kont => XS.goto X42.here hx rfl (pc0 := 129) (pc' := 133) rfl (hb hby at_129) (by decide) (by decide) kont) ?_
    show own_Ends _ _ _ _ (T42.setTop (mkF m 133 #[.val (.int z1), .val (.ref b1), .val (.int 8), .val (.int 1)] [(.int 1)]))
    refine own_leave X42 (v := some (.int (1 : Int32))) (fun h => by rw [Bd.returns] at h; cases h) ?_ (by decide) (by decide) (fun fs hr => retN X42 hx (t := .boolean) Bd.returns (by simp) (hb hby at_133) hr)
    show Q_rm0 Z z1 c0 c1 c2 c3 c4 c5 c6 c7 c8 c9 c10 c11 h0 n0 _ T42.heap _
    rw [E42]
    exact ⟨rfl, N42⟩
  · skip
    show own_Ends _ _ _ _ (T25.setTop (mkF m 91 #[.val (.int z1), .val (.ref b1), .unset, .unset] [(.int 8)]))
    refine own_to (fun _ kont => XS.iconst X25.here hx rfl (hb hby at_91) kont) ?_
    show own_Ends _ _ _ _ (T25.setTop (mkF m 92 #[.val (.int z1), .val (.ref b1), .unset, .unset] [(.int 1), (.int 8)]))
    refine own_to (fun _ kont => XS.iadd X25.here hx rfl (hb hby at_92) rfl kont) ?_
    show own_Ends _ _ _ _ (T25.setTop (mkF m 93 #[.val (.int z1), .val (.ref b1), .unset, .unset] [(.int 9)]))
    refine own_to (fun _ kont => XS.istoreN X25.here hx rfl (hb hby at_93) rfl (l' := #[.val (.int z1), .val (.ref b1), .val (.int (9 : Int32)), .unset]) rfl kont) ?_
    show own_Ends _ _ _ _ (T25.setTop (mkF m 94 #[.val (.int z1), .val (.ref b1), .val (.int 9), .unset] []))
    refine own_to (fun _ kont => XS.iloadN X25.here hx rfl (hb hby at_94) rfl kont) ?_
    show own_Ends _ _ _ _ (T25.setTop (mkF m 95 #[.val (.int z1), .val (.ref b1), .val (.int 9), .unset] [(.int 9)]))
    refine own_to (fun _ kont => XS.iconst X25.here hx rfl (hb hby at_95) kont) ?_
    show own_Ends _ _ _ _ (T25.setTop (mkF m 96 #[.val (.int z1), .val (.ref b1), .val (.int 9), .unset] [(.int 1), (.int 9)]))
    refine own_to (fun _ kont => XS.icmpNo X25.here hx rfl (hb hby at_96) rfl (feq (by decide)).1 kont) ?_
    show own_Ends _ _ _ _ (T25.setTop (mkF m 99 #[.val (.int z1), .val (.ref b1), .val (.int 9), .unset] []))
    refine own_to (fun _ kont => XS.iloadN X25.here hx rfl (hb hby at_99) rfl kont) ?_
    show own_Ends _ _ _ _ (T25.setTop (mkF m 100 #[.val (.int z1), .val (.ref b1), .val (.int 9), .unset] [(.int 9)]))
    refine own_to (fun _ kont => XS.iconst X25.here hx rfl (hb hby at_100) kont) ?_
    show own_Ends _ _ _ _ (T25.setTop (mkF m 101 #[.val (.int z1), .val (.ref b1), .val (.int 9), .unset] [(.int 2), (.int 9)]))
    refine own_to (fun _ kont => XS.icmpNo X25.here hx rfl (hb hby at_101) rfl (feq (by decide)).1 kont) ?_
    show own_Ends _ _ _ _ (T25.setTop (mkF m 104 #[.val (.int z1), .val (.ref b1), .val (.int 9), .unset] []))
    refine own_to (fun _ kont => XS.iloadN X25.here hx rfl (hb hby at_104) rfl kont) ?_
    show own_Ends _ _ _ _ (T25.setTop (mkF m 105 #[.val (.int z1), .val (.ref b1), .val (.int 9), .unset] [(.int 9)]))
    refine own_to (fun _ kont => XS.bipush X25.here hx rfl (hb hby at_105) kont) ?_
    show own_Ends _ _ _ _ (T25.setTop (mkF m 107 #[.val (.int z1), .val (.ref b1), .val (.int 9), .unset] [(.int 8), (.int 9)]))
    refine own_to (fun _ kont => XS.icmpYes X25.here hx rfl (pc0 := 107) (pc' := 114) rfl (hb hby at_107) rfl (feq (by decide)).2 (by decide) (by decide) kont) ?_
    show own_Ends _ _ _ _ (T25.setTop (mkF m 114 #[.val (.int z1), .val (.ref b1), .val (.int 9), .unset] []))
    refine own_to (fun _ kont => XS.iconst X25.here hx rfl (hb hby at_114) kont) ?_
    show own_Ends _ _ _ _ (T25.setTop (mkF m 115 #[.val (.int z1), .val (.ref b1), .val (.int 9), .unset] [(.int 0)]))
    refine own_to (fun _ kont => XS.istoreN X25.here hx rfl (hb hby at_115) rfl (l' := #[.val (.int z1), .val (.ref b1), .val (.int (9 : Int32)), .val (.int (0 : Int32))]) rfl kont) ?_
    show own_Ends _ _ _ _ (T25.setTop (mkF m 116 #[.val (.int z1), .val (.ref b1), .val (.int 9), .val (.int 0)] []))
    refine own_to (fun _ kont => XS.aloadN X25.here hx rfl (hb hby at_116) rfl rfl kont) ?_
    show own_Ends _ _ _ _ (T25.setTop (mkF m 117 #[.val (.int z1), .val (.ref b1), .val (.int 9), .val (.int 0)] [(.ref b1)]))
    refine own_to (fun _ kont => XS.iloadN X25.here hx rfl (hb hby at_117) rfl kont) ?_
    show own_Ends _ _ _ _ (T25.setTop (mkF m 118 #[.val (.int z1), .val (.ref b1), .val (.int 9), .val (.int 0)] [(.int 9), (.ref b1)]))
    refine own_to (fun _ kont => XS.iconst X25.here hx rfl (hb hby at_118) kont) ?_
    show own_Ends _ _ _ _ (T25.setTop (mkF m 119 #[.val (.int z1), .val (.ref b1), .val (.int 9), .val (.int 0)] [(.int 1), (.int 9), (.ref b1)]))
    refine own_to (fun _ kont => XS.isub X25.here hx rfl (hb hby at_119) rfl kont) ?_
    show own_Ends _ _ _ _ (T25.setTop (mkF m 120 #[.val (.int z1), .val (.ref b1), .val (.int 9), .val (.int 0)] [(.int 8), (.ref b1)]))
    obtain ⟨cl43, Ar43, q43, S43, M43, H43, G43⟩ := Vs25
    have hin43 : ¬ ((8 : Int32) < 0 ∨ cl43.slots.size ≤ ((8 : Int32)).toNatClampNeg) := inb_of S43 ⟨by decide, by decide⟩
    have hat43 : cl43.slots[((8 : Int32)).toNatClampNeg]? = some (.ref c8) := Has.at H43 hin43 rfl
    refine own_to (fun _ kont => X25.aaload hx (j := (8 : Int32)) (v := (.ref c8)) (by rw [e25]; exact Ar43.1) (State.isArrayOf_alike hZ.alike Ar43.2.1) rfl Ar43.2.2 hin43 hat43 (g := (mkF m 120 #[.val (.int z1), .val (.ref b1), .val (.int (9 : Int32)), .val (.int (0 : Int32))] [(.int (8 : Int32)), (.ref b1)])) rfl rfl (hb hby at_120) _ kont) ?_
    show own_Ends _ _ _ _ (T25.setTop (mkF m 121 #[.val (.int z1), .val (.ref b1), .val (.int 9), .val (.int 0)] [(.ref c8)]))
    obtain ⟨cq44, kq44, q44a, q44b, q44c⟩ := isOf hZ e25 (E_c8.ext O25.2)
    obtain ⟨_, _, ⟨T44, L44, k44, n44⟩, -, X44, ⟨Lc44, hQ44, l44, y44, z44⟩, st44⟩ := X25.virtualBack hx (y := oM0) (z := oM0) hown (mvT hZ (ow29 hw)) (mvT hZ (ow30 hw)) (notFace_of_selects (args := #[]) (mvT hZ (ow32 hw))) (mvT hZ (ow32 hw)) (mvT hZ (ow31 hw)) (by decide) (backOf (W := 0) (rm2 l Z a0 hw [] c8 c0 c1 c7 h25 n0 O25 S_c0 S_c1 S_c7) hZ (ow33 hw) (ow3 hw) (by decide) (by decide)) q44a q44c (g := (mkF m 121 #[.val (.int z1), .val (.ref b1), .val (.int (9 : Int32)), .val (.int (0 : Int32))] [(.ref c8)])) rfl (by rw [hml]; rfl) (Steps.refl _) (argsL := []) (rest := []) (lenOf pd_0 rfl) rfl (by show 2 * 0 + _ ≤ _; exact Nat.le_of_eq rfl) (hb hby at_121) (fun _ _ => ⟨rfl, e25, (own_le rfl), (own_le rfl)⟩)
    dsimp only [Pt.U, Pt.locs, Pt.cells, Pt.slots] at X44 l44 y44 z44 st44 hQ44
    subst l44 y44 z44
    obtain ⟨hv44, N44q, E44⟩ := hQ44
    rw [own_is_no (Fld.ne F_c8 F_c0 (own_intne (by decide))) (Fld.ne F_c8 F_c1 (own_intne (by decide))) (Fld.ne F_c8 F_c7 (own_intne (by decide)))] at hv44
    subst hv44
    have N44 := Fr.app N25 N44q
    refine own_tr st44 ?_
    show own_Ends _ _ _ _ (T44.setTop (mkF m 124 #[.val (.int z1), .val (.ref b1), .val (.int 9), .val (.int 0)] [(.int 0)]))
    refine own_to (fun _ kont => XS.iloadN X44.here hx rfl (hb hby at_124) rfl kont) ?_
    show own_Ends _ _ _ _ (T44.setTop (mkF m 125 #[.val (.int z1), .val (.ref b1), .val (.int 9), .val (.int 0)] [(.int 0), (.int 0)]))
    refine own_to (fun _ kont => XS.icmpNo X44.here hx rfl (hb hby at_125) rfl (teq (by decide)).2 kont) ?_
    show own_Ends _ _ _ _ (T44.setTop (mkF m 128 #[.val (.int z1), .val (.ref b1), .val (.int 9), .val (.int 0)] []))
    refine own_to (fun _ kont => XS.iconst X44.here hx rfl (hb hby at_128) kont) ?_
    show own_Ends _ _ _ _ (T44.setTop (mkF m 129 #[.val (.int z1), .val (.ref b1), .val (.int 9), .val (.int 0)] [(.int 1)]))
    refine own_to (fun _ kont => XS.goto X44.here hx rfl (pc0 := 129) (pc' := 133) rfl (hb hby at_129) (by decide) (by decide) kont) ?_
    show own_Ends _ _ _ _ (T44.setTop (mkF m 133 #[.val (.int z1), .val (.ref b1), .val (.int 9), .val (.int 0)] [(.int 1)]))
    refine own_leave X44 (v := some (.int (1 : Int32))) (fun h => by rw [Bd.returns] at h; cases h) ?_ (by decide) (by decide) (fun fs hr => retN X44 hx (t := .boolean) Bd.returns (by simp) (hb hby at_133) hr)
    show Q_rm0 Z z1 c0 c1 c2 c3 c4 c5 c6 c7 c8 c9 c10 c11 h0 n0 _ T44.heap _
    rw [E44]
    exact ⟨rfl, N44⟩
  · skip
    show own_Ends _ _ _ _ (T25.setTop (mkF m 91 #[.val (.int z1), .val (.ref b1), .unset, .unset] [(.int 9)]))
    refine own_to (fun _ kont => XS.iconst X25.here hx rfl (hb hby at_91) kont) ?_
    show own_Ends _ _ _ _ (T25.setTop (mkF m 92 #[.val (.int z1), .val (.ref b1), .unset, .unset] [(.int 1), (.int 9)]))
    refine own_to (fun _ kont => XS.iadd X25.here hx rfl (hb hby at_92) rfl kont) ?_
    show own_Ends _ _ _ _ (T25.setTop (mkF m 93 #[.val (.int z1), .val (.ref b1), .unset, .unset] [(.int 10)]))
    refine own_to (fun _ kont => XS.istoreN X25.here hx rfl (hb hby at_93) rfl (l' := #[.val (.int z1), .val (.ref b1), .val (.int (10 : Int32)), .unset]) rfl kont) ?_
    show own_Ends _ _ _ _ (T25.setTop (mkF m 94 #[.val (.int z1), .val (.ref b1), .val (.int 10), .unset] []))
    refine own_to (fun _ kont => XS.iloadN X25.here hx rfl (hb hby at_94) rfl kont) ?_
    show own_Ends _ _ _ _ (T25.setTop (mkF m 95 #[.val (.int z1), .val (.ref b1), .val (.int 10), .unset] [(.int 10)]))
    refine own_to (fun _ kont => XS.iconst X25.here hx rfl (hb hby at_95) kont) ?_
    show own_Ends _ _ _ _ (T25.setTop (mkF m 96 #[.val (.int z1), .val (.ref b1), .val (.int 10), .unset] [(.int 1), (.int 10)]))
    refine own_to (fun _ kont => XS.icmpNo X25.here hx rfl (hb hby at_96) rfl (feq (by decide)).1 kont) ?_
    show own_Ends _ _ _ _ (T25.setTop (mkF m 99 #[.val (.int z1), .val (.ref b1), .val (.int 10), .unset] []))
    refine own_to (fun _ kont => XS.iloadN X25.here hx rfl (hb hby at_99) rfl kont) ?_
    show own_Ends _ _ _ _ (T25.setTop (mkF m 100 #[.val (.int z1), .val (.ref b1), .val (.int 10), .unset] [(.int 10)]))
    refine own_to (fun _ kont => XS.iconst X25.here hx rfl (hb hby at_100) kont) ?_
    show own_Ends _ _ _ _ (T25.setTop (mkF m 101 #[.val (.int z1), .val (.ref b1), .val (.int 10), .unset] [(.int 2), (.int 10)]))
    refine own_to (fun _ kont => XS.icmpNo X25.here hx rfl (hb hby at_101) rfl (feq (by decide)).1 kont) ?_
    show own_Ends _ _ _ _ (T25.setTop (mkF m 104 #[.val (.int z1), .val (.ref b1), .val (.int 10), .unset] []))
    refine own_to (fun _ kont => XS.iloadN X25.here hx rfl (hb hby at_104) rfl kont) ?_
    show own_Ends _ _ _ _ (T25.setTop (mkF m 105 #[.val (.int z1), .val (.ref b1), .val (.int 10), .unset] [(.int 10)]))
    refine own_to (fun _ kont => XS.bipush X25.here hx rfl (hb hby at_105) kont) ?_
    show own_Ends _ _ _ _ (T25.setTop (mkF m 107 #[.val (.int z1), .val (.ref b1), .val (.int 10), .unset] [(.int 8), (.int 10)]))
    refine own_to (fun _ kont => XS.icmpYes X25.here hx rfl (pc0 := 107) (pc' := 114) rfl (hb hby at_107) rfl (feq (by decide)).2 (by decide) (by decide) kont) ?_
    show own_Ends _ _ _ _ (T25.setTop (mkF m 114 #[.val (.int z1), .val (.ref b1), .val (.int 10), .unset] []))
    refine own_to (fun _ kont => XS.iconst X25.here hx rfl (hb hby at_114) kont) ?_
    show own_Ends _ _ _ _ (T25.setTop (mkF m 115 #[.val (.int z1), .val (.ref b1), .val (.int 10), .unset] [(.int 0)]))
    refine own_to (fun _ kont => XS.istoreN X25.here hx rfl (hb hby at_115) rfl (l' := #[.val (.int z1), .val (.ref b1), .val (.int (10 : Int32)), .val (.int (0 : Int32))]) rfl kont) ?_
    show own_Ends _ _ _ _ (T25.setTop (mkF m 116 #[.val (.int z1), .val (.ref b1), .val (.int 10), .val (.int 0)] []))
    refine own_to (fun _ kont => XS.aloadN X25.here hx rfl (hb hby at_116) rfl rfl kont) ?_
    show own_Ends _ _ _ _ (T25.setTop (mkF m 117 #[.val (.int z1), .val (.ref b1), .val (.int 10), .val (.int 0)] [(.ref b1)]))
    refine own_to (fun _ kont => XS.iloadN X25.here hx rfl (hb hby at_117) rfl kont) ?_
    show own_Ends _ _ _ _ (T25.setTop (mkF m 118 #[.val (.int z1), .val (.ref b1), .val (.int 10), .val (.int 0)] [(.int 10), (.ref b1)]))
    refine own_to (fun _ kont => XS.iconst X25.here hx rfl (hb hby at_118) kont) ?_
    show own_Ends _ _ _ _ (T25.setTop (mkF m 119 #[.val (.int z1), .val (.ref b1), .val (.int 10), .val (.int 0)] [(.int 1), (.int 10), (.ref b1)]))
    refine own_to (fun _ kont => XS.isub X25.here hx rfl (hb hby at_119) rfl kont) ?_
    show own_Ends _ _ _ _ (T25.setTop (mkF m 120 #[.val (.int z1), .val (.ref b1), .val (.int 10), .val (.int 0)] [(.int 9), (.ref b1)]))
    obtain ⟨cl45, Ar45, q45, S45, M45, H45, G45⟩ := Vs25
    have hin45 : ¬ ((9 : Int32) < 0 ∨ cl45.slots.size ≤ ((9 : Int32)).toNatClampNeg) := inb_of S45 ⟨by decide, by decide⟩
    have hat45 : cl45.slots[((9 : Int32)).toNatClampNeg]? = some (.ref c9) := Has.at H45 hin45 rfl
    refine own_to (fun _ kont => X25.aaload hx (j := (9 : Int32)) (v := (.ref c9)) (by rw [e25]; exact Ar45.1) (State.isArrayOf_alike hZ.alike Ar45.2.1) rfl Ar45.2.2 hin45 hat45 (g := (mkF m 120 #[.val (.int z1), .val (.ref b1), .val (.int (10 : Int32)), .val (.int (0 : Int32))] [(.int (9 : Int32)), (.ref b1)])) rfl rfl (hb hby at_120) _ kont) ?_
    show own_Ends _ _ _ _ (T25.setTop (mkF m 121 #[.val (.int z1), .val (.ref b1), .val (.int 10), .val (.int 0)] [(.ref c9)]))
    obtain ⟨cq46, kq46, q46a, q46b, q46c⟩ := isOf hZ e25 (E_c9.ext O25.2)
    obtain ⟨_, _, ⟨T46, L46, k46, n46⟩, -, X46, ⟨Lc46, hQ46, l46, y46, z46⟩, st46⟩ := X25.virtualBack hx (y := oM0) (z := oM0) hown (mvT hZ (ow29 hw)) (mvT hZ (ow30 hw)) (notFace_of_selects (args := #[]) (mvT hZ (ow32 hw))) (mvT hZ (ow32 hw)) (mvT hZ (ow31 hw)) (by decide) (backOf (W := 0) (rm2 l Z a0 hw [] c9 c0 c1 c7 h25 n0 O25 S_c0 S_c1 S_c7) hZ (ow33 hw) (ow3 hw) (by decide) (by decide)) q46a q46c (g := (mkF m 121 #[.val (.int z1), .val (.ref b1), .val (.int (10 : Int32)), .val (.int (0 : Int32))] [(.ref c9)])) rfl (by rw [hml]; rfl) (Steps.refl _) (argsL := []) (rest := []) (lenOf pd_0 rfl) rfl (by show 2 * 0 + _ ≤ _; exact Nat.le_of_eq rfl) (hb hby at_121) (fun _ _ => ⟨rfl, e25, (own_le rfl), (own_le rfl)⟩)
    dsimp only [Pt.U, Pt.locs, Pt.cells, Pt.slots] at X46 l46 y46 z46 st46 hQ46
    subst l46 y46 z46
    obtain ⟨hv46, N46q, E46⟩ := hQ46
    rw [own_is_no (Fld.ne F_c9 F_c0 (own_intne (by decide))) (Fld.ne F_c9 F_c1 (own_intne (by decide))) (Fld.ne F_c9 F_c7 (own_intne (by decide)))] at hv46
    subst hv46
    have N46 := Fr.app N25 N46q
    refine own_tr st46 ?_
    show own_Ends _ _ _ _ (T46.setTop (mkF m 124 #[.val (.int z1), .val (.ref b1), .val (.int 10), .val (.int 0)] [(.int 0)]))
    refine own_to (fun _ kont => XS.iloadN X46.here hx rfl (hb hby at_124) rfl kont) ?_
    show own_Ends _ _ _ _ (T46.setTop (mkF m 125 #[.val (.int z1), .val (.ref b1), .val (.int 10), .val (.int 0)] [(.int 0), (.int 0)]))
    refine own_to (fun _ kont => XS.icmpNo X46.here hx rfl (hb hby at_125) rfl (teq (by decide)).2 kont) ?_
    show own_Ends _ _ _ _ (T46.setTop (mkF m 128 #[.val (.int z1), .val (.ref b1), .val (.int 10), .val (.int 0)] []))
    refine own_to (fun _ kont => XS.iconst X46.here hx rfl (hb hby at_128) kont) ?_
    show own_Ends _ _ _ _ (T46.setTop (mkF m 129 #[.val (.int z1), .val (.ref b1), .val (.int 10), .val (.int 0)] [(.int 1)]))
    refine own_to (fun _ kont => XS.goto X46.here hx rfl (pc0 := 129) (pc' := 133) rfl (hb hby at_129) (by decide) (by decide) kont) ?_
    show own_Ends _ _ _ _ (T46.setTop (mkF m 133 #[.val (.int z1), .val (.ref b1), .val (.int 10), .val (.int 0)] [(.int 1)]))
    refine own_leave X46 (v := some (.int (1 : Int32))) (fun h => by rw [Bd.returns] at h; cases h) ?_ (by decide) (by decide) (fun fs hr => retN X46 hx (t := .boolean) Bd.returns (by simp) (hb hby at_133) hr)
    show Q_rm0 Z z1 c0 c1 c2 c3 c4 c5 c6 c7 c8 c9 c10 c11 h0 n0 _ T46.heap _
    rw [E46]
    exact ⟨rfl, N46⟩
  · skip
    show own_Ends _ _ _ _ (T25.setTop (mkF m 91 #[.val (.int z1), .val (.ref b1), .unset, .unset] [(.int 10)]))
    refine own_to (fun _ kont => XS.iconst X25.here hx rfl (hb hby at_91) kont) ?_
    show own_Ends _ _ _ _ (T25.setTop (mkF m 92 #[.val (.int z1), .val (.ref b1), .unset, .unset] [(.int 1), (.int 10)]))
    refine own_to (fun _ kont => XS.iadd X25.here hx rfl (hb hby at_92) rfl kont) ?_
    show own_Ends _ _ _ _ (T25.setTop (mkF m 93 #[.val (.int z1), .val (.ref b1), .unset, .unset] [(.int 11)]))
    refine own_to (fun _ kont => XS.istoreN X25.here hx rfl (hb hby at_93) rfl (l' := #[.val (.int z1), .val (.ref b1), .val (.int (11 : Int32)), .unset]) rfl kont) ?_
    show own_Ends _ _ _ _ (T25.setTop (mkF m 94 #[.val (.int z1), .val (.ref b1), .val (.int 11), .unset] []))
    refine own_to (fun _ kont => XS.iloadN X25.here hx rfl (hb hby at_94) rfl kont) ?_
    show own_Ends _ _ _ _ (T25.setTop (mkF m 95 #[.val (.int z1), .val (.ref b1), .val (.int 11), .unset] [(.int 11)]))
    refine own_to (fun _ kont => XS.iconst X25.here hx rfl (hb hby at_95) kont) ?_
    show own_Ends _ _ _ _ (T25.setTop (mkF m 96 #[.val (.int z1), .val (.ref b1), .val (.int 11), .unset] [(.int 1), (.int 11)]))
    refine own_to (fun _ kont => XS.icmpNo X25.here hx rfl (hb hby at_96) rfl (feq (by decide)).1 kont) ?_
    show own_Ends _ _ _ _ (T25.setTop (mkF m 99 #[.val (.int z1), .val (.ref b1), .val (.int 11), .unset] []))
    refine own_to (fun _ kont => XS.iloadN X25.here hx rfl (hb hby at_99) rfl kont) ?_
    show own_Ends _ _ _ _ (T25.setTop (mkF m 100 #[.val (.int z1), .val (.ref b1), .val (.int 11), .unset] [(.int 11)]))
    refine own_to (fun _ kont => XS.iconst X25.here hx rfl (hb hby at_100) kont) ?_
    show own_Ends _ _ _ _ (T25.setTop (mkF m 101 #[.val (.int z1), .val (.ref b1), .val (.int 11), .unset] [(.int 2), (.int 11)]))
    refine own_to (fun _ kont => XS.icmpNo X25.here hx rfl (hb hby at_101) rfl (feq (by decide)).1 kont) ?_
    show own_Ends _ _ _ _ (T25.setTop (mkF m 104 #[.val (.int z1), .val (.ref b1), .val (.int 11), .unset] []))
    refine own_to (fun _ kont => XS.iloadN X25.here hx rfl (hb hby at_104) rfl kont) ?_
    show own_Ends _ _ _ _ (T25.setTop (mkF m 105 #[.val (.int z1), .val (.ref b1), .val (.int 11), .unset] [(.int 11)]))
    refine own_to (fun _ kont => XS.bipush X25.here hx rfl (hb hby at_105) kont) ?_
    show own_Ends _ _ _ _ (T25.setTop (mkF m 107 #[.val (.int z1), .val (.ref b1), .val (.int 11), .unset] [(.int 8), (.int 11)]))
    refine own_to (fun _ kont => XS.icmpYes X25.here hx rfl (pc0 := 107) (pc' := 114) rfl (hb hby at_107) rfl (feq (by decide)).2 (by decide) (by decide) kont) ?_
    show own_Ends _ _ _ _ (T25.setTop (mkF m 114 #[.val (.int z1), .val (.ref b1), .val (.int 11), .unset] []))
    refine own_to (fun _ kont => XS.iconst X25.here hx rfl (hb hby at_114) kont) ?_
    show own_Ends _ _ _ _ (T25.setTop (mkF m 115 #[.val (.int z1), .val (.ref b1), .val (.int 11), .unset] [(.int 0)]))
    refine own_to (fun _ kont => XS.istoreN X25.here hx rfl (hb hby at_115) rfl (l' := #[.val (.int z1), .val (.ref b1), .val (.int (11 : Int32)), .val (.int (0 : Int32))]) rfl kont) ?_
    show own_Ends _ _ _ _ (T25.setTop (mkF m 116 #[.val (.int z1), .val (.ref b1), .val (.int 11), .val (.int 0)] []))
    refine own_to (fun _ kont => XS.aloadN X25.here hx rfl (hb hby at_116) rfl rfl kont) ?_
    show own_Ends _ _ _ _ (T25.setTop (mkF m 117 #[.val (.int z1), .val (.ref b1), .val (.int 11), .val (.int 0)] [(.ref b1)]))
    refine own_to (fun _ kont => XS.iloadN X25.here hx rfl (hb hby at_117) rfl kont) ?_
    show own_Ends _ _ _ _ (T25.setTop (mkF m 118 #[.val (.int z1), .val (.ref b1), .val (.int 11), .val (.int 0)] [(.int 11), (.ref b1)]))
    refine own_to (fun _ kont => XS.iconst X25.here hx rfl (hb hby at_118) kont) ?_
    show own_Ends _ _ _ _ (T25.setTop (mkF m 119 #[.val (.int z1), .val (.ref b1), .val (.int 11), .val (.int 0)] [(.int 1), (.int 11), (.ref b1)]))
    refine own_to (fun _ kont => XS.isub X25.here hx rfl (hb hby at_119) rfl kont) ?_
    show own_Ends _ _ _ _ (T25.setTop (mkF m 120 #[.val (.int z1), .val (.ref b1), .val (.int 11), .val (.int 0)] [(.int 10), (.ref b1)]))
    obtain ⟨cl47, Ar47, q47, S47, M47, H47, G47⟩ := Vs25
    have hin47 : ¬ ((10 : Int32) < 0 ∨ cl47.slots.size ≤ ((10 : Int32)).toNatClampNeg) := inb_of S47 ⟨by decide, by decide⟩
    have hat47 : cl47.slots[((10 : Int32)).toNatClampNeg]? = some (.ref c10) := Has.at H47 hin47 rfl
    refine own_to (fun _ kont => X25.aaload hx (j := (10 : Int32)) (v := (.ref c10)) (by rw [e25]; exact Ar47.1) (State.isArrayOf_alike hZ.alike Ar47.2.1) rfl Ar47.2.2 hin47 hat47 (g := (mkF m 120 #[.val (.int z1), .val (.ref b1), .val (.int (11 : Int32)), .val (.int (0 : Int32))] [(.int (10 : Int32)), (.ref b1)])) rfl rfl (hb hby at_120) _ kont) ?_
    show own_Ends _ _ _ _ (T25.setTop (mkF m 121 #[.val (.int z1), .val (.ref b1), .val (.int 11), .val (.int 0)] [(.ref c10)]))
    obtain ⟨cq48, kq48, q48a, q48b, q48c⟩ := isOf hZ e25 (E_c10.ext O25.2)
    obtain ⟨_, _, ⟨T48, L48, k48, n48⟩, -, X48, ⟨Lc48, hQ48, l48, y48, z48⟩, st48⟩ := X25.virtualBack hx (y := oM0) (z := oM0) hown (mvT hZ (ow29 hw)) (mvT hZ (ow30 hw)) (notFace_of_selects (args := #[]) (mvT hZ (ow32 hw))) (mvT hZ (ow32 hw)) (mvT hZ (ow31 hw)) (by decide) (backOf (W := 0) (rm2 l Z a0 hw [] c10 c0 c1 c7 h25 n0 O25 S_c0 S_c1 S_c7) hZ (ow33 hw) (ow3 hw) (by decide) (by decide)) q48a q48c (g := (mkF m 121 #[.val (.int z1), .val (.ref b1), .val (.int (11 : Int32)), .val (.int (0 : Int32))] [(.ref c10)])) rfl (by rw [hml]; rfl) (Steps.refl _) (argsL := []) (rest := []) (lenOf pd_0 rfl) rfl (by show 2 * 0 + _ ≤ _; exact Nat.le_of_eq rfl) (hb hby at_121) (fun _ _ => ⟨rfl, e25, (own_le rfl), (own_le rfl)⟩)
    dsimp only [Pt.U, Pt.locs, Pt.cells, Pt.slots] at X48 l48 y48 z48 st48 hQ48
    subst l48 y48 z48
    obtain ⟨hv48, N48q, E48⟩ := hQ48
    rw [own_is_no (Fld.ne F_c10 F_c0 (own_intne (by decide))) (Fld.ne F_c10 F_c1 (own_intne (by decide))) (Fld.ne F_c10 F_c7 (own_intne (by decide)))] at hv48
    subst hv48
    have N48 := Fr.app N25 N48q
    refine own_tr st48 ?_
    show own_Ends _ _ _ _ (T48.setTop (mkF m 124 #[.val (.int z1), .val (.ref b1), .val (.int 11), .val (.int 0)] [(.int 0)]))
    refine own_to (fun _ kont => XS.iloadN X48.here hx rfl (hb hby at_124) rfl kont) ?_
    show own_Ends _ _ _ _ (T48.setTop (mkF m 125 #[.val (.int z1), .val (.ref b1), .val (.int 11), .val (.int 0)] [(.int 0), (.int 0)]))
    refine own_to (fun _ kont => XS.icmpNo X48.here hx rfl (hb hby at_125) rfl (teq (by decide)).2 kont) ?_
    show own_Ends _ _ _ _ (T48.setTop (mkF m 128 #[.val (.int z1), .val (.ref b1), .val (.int 11), .val (.int 0)] []))
    refine own_to (fun _ kont => XS.iconst X48.here hx rfl (hb hby at_128) kont) ?_
    show own_Ends _ _ _ _ (T48.setTop (mkF m 129 #[.val (.int z1), .val (.ref b1), .val (.int 11), .val (.int 0)] [(.int 1)]))
    refine own_to (fun _ kont => XS.goto X48.here hx rfl (pc0 := 129) (pc' := 133) rfl (hb hby at_129) (by decide) (by decide) kont) ?_
    show own_Ends _ _ _ _ (T48.setTop (mkF m 133 #[.val (.int z1), .val (.ref b1), .val (.int 11), .val (.int 0)] [(.int 1)]))
    refine own_leave X48 (v := some (.int (1 : Int32))) (fun h => by rw [Bd.returns] at h; cases h) ?_ (by decide) (by decide) (fun fs hr => retN X48 hx (t := .boolean) Bd.returns (by simp) (hb hby at_133) hr)
    show Q_rm0 Z z1 c0 c1 c2 c3 c4 c5 c6 c7 c8 c9 c10 c11 h0 n0 _ T48.heap _
    rw [E48]
    exact ⟨rfl, N48⟩
  · skip
    show own_Ends _ _ _ _ (T25.setTop (mkF m 91 #[.val (.int z1), .val (.ref b1), .unset, .unset] [(.int 11)]))
    refine own_to (fun _ kont => XS.iconst X25.here hx rfl (hb hby at_91) kont) ?_
    show own_Ends _ _ _ _ (T25.setTop (mkF m 92 #[.val (.int z1), .val (.ref b1), .unset, .unset] [(.int 1), (.int 11)]))
    refine own_to (fun _ kont => XS.iadd X25.here hx rfl (hb hby at_92) rfl kont) ?_
    show own_Ends _ _ _ _ (T25.setTop (mkF m 93 #[.val (.int z1), .val (.ref b1), .unset, .unset] [(.int 12)]))
    refine own_to (fun _ kont => XS.istoreN X25.here hx rfl (hb hby at_93) rfl (l' := #[.val (.int z1), .val (.ref b1), .val (.int (12 : Int32)), .unset]) rfl kont) ?_
    show own_Ends _ _ _ _ (T25.setTop (mkF m 94 #[.val (.int z1), .val (.ref b1), .val (.int 12), .unset] []))
    refine own_to (fun _ kont => XS.iloadN X25.here hx rfl (hb hby at_94) rfl kont) ?_
    show own_Ends _ _ _ _ (T25.setTop (mkF m 95 #[.val (.int z1), .val (.ref b1), .val (.int 12), .unset] [(.int 12)]))
    refine own_to (fun _ kont => XS.iconst X25.here hx rfl (hb hby at_95) kont) ?_
    show own_Ends _ _ _ _ (T25.setTop (mkF m 96 #[.val (.int z1), .val (.ref b1), .val (.int 12), .unset] [(.int 1), (.int 12)]))
    refine own_to (fun _ kont => XS.icmpNo X25.here hx rfl (hb hby at_96) rfl (feq (by decide)).1 kont) ?_
    show own_Ends _ _ _ _ (T25.setTop (mkF m 99 #[.val (.int z1), .val (.ref b1), .val (.int 12), .unset] []))
    refine own_to (fun _ kont => XS.iloadN X25.here hx rfl (hb hby at_99) rfl kont) ?_
    show own_Ends _ _ _ _ (T25.setTop (mkF m 100 #[.val (.int z1), .val (.ref b1), .val (.int 12), .unset] [(.int 12)]))
    refine own_to (fun _ kont => XS.iconst X25.here hx rfl (hb hby at_100) kont) ?_
    show own_Ends _ _ _ _ (T25.setTop (mkF m 101 #[.val (.int z1), .val (.ref b1), .val (.int 12), .unset] [(.int 2), (.int 12)]))
    refine own_to (fun _ kont => XS.icmpNo X25.here hx rfl (hb hby at_101) rfl (feq (by decide)).1 kont) ?_
    show own_Ends _ _ _ _ (T25.setTop (mkF m 104 #[.val (.int z1), .val (.ref b1), .val (.int 12), .unset] []))
    refine own_to (fun _ kont => XS.iloadN X25.here hx rfl (hb hby at_104) rfl kont) ?_
    show own_Ends _ _ _ _ (T25.setTop (mkF m 105 #[.val (.int z1), .val (.ref b1), .val (.int 12), .unset] [(.int 12)]))
    refine own_to (fun _ kont => XS.bipush X25.here hx rfl (hb hby at_105) kont) ?_
    show own_Ends _ _ _ _ (T25.setTop (mkF m 107 #[.val (.int z1), .val (.ref b1), .val (.int 12), .unset] [(.int 8), (.int 12)]))
    refine own_to (fun _ kont => XS.icmpYes X25.here hx rfl (pc0 := 107) (pc' := 114) rfl (hb hby at_107) rfl (feq (by decide)).2 (by decide) (by decide) kont) ?_
    show own_Ends _ _ _ _ (T25.setTop (mkF m 114 #[.val (.int z1), .val (.ref b1), .val (.int 12), .unset] []))
    refine own_to (fun _ kont => XS.iconst X25.here hx rfl (hb hby at_114) kont) ?_
    show own_Ends _ _ _ _ (T25.setTop (mkF m 115 #[.val (.int z1), .val (.ref b1), .val (.int 12), .unset] [(.int 0)]))
    refine own_to (fun _ kont => XS.istoreN X25.here hx rfl (hb hby at_115) rfl (l' := #[.val (.int z1), .val (.ref b1), .val (.int (12 : Int32)), .val (.int (0 : Int32))]) rfl kont) ?_
    show own_Ends _ _ _ _ (T25.setTop (mkF m 116 #[.val (.int z1), .val (.ref b1), .val (.int 12), .val (.int 0)] []))
    refine own_to (fun _ kont => XS.aloadN X25.here hx rfl (hb hby at_116) rfl rfl kont) ?_
    show own_Ends _ _ _ _ (T25.setTop (mkF m 117 #[.val (.int z1), .val (.ref b1), .val (.int 12), .val (.int 0)] [(.ref b1)]))
    refine own_to (fun _ kont => XS.iloadN X25.here hx rfl (hb hby at_117) rfl kont) ?_
    show own_Ends _ _ _ _ (T25.setTop (mkF m 118 #[.val (.int z1), .val (.ref b1), .val (.int 12), .val (.int 0)] [(.int 12), (.ref b1)]))
    refine own_to (fun _ kont => XS.iconst X25.here hx rfl (hb hby at_118) kont) ?_
    show own_Ends _ _ _ _ (T25.setTop (mkF m 119 #[.val (.int z1), .val (.ref b1), .val (.int 12), .val (.int 0)] [(.int 1), (.int 12), (.ref b1)]))
    refine own_to (fun _ kont => XS.isub X25.here hx rfl (hb hby at_119) rfl kont) ?_
    show own_Ends _ _ _ _ (T25.setTop (mkF m 120 #[.val (.int z1), .val (.ref b1), .val (.int 12), .val (.int 0)] [(.int 11), (.ref b1)]))
    obtain ⟨cl49, Ar49, q49, S49, M49, H49, G49⟩ := Vs25
    have hin49 : ¬ ((11 : Int32) < 0 ∨ cl49.slots.size ≤ ((11 : Int32)).toNatClampNeg) := inb_of S49 ⟨by decide, by decide⟩
    have hat49 : cl49.slots[((11 : Int32)).toNatClampNeg]? = some (.ref c11) := Has.at H49 hin49 rfl
    refine own_to (fun _ kont => X25.aaload hx (j := (11 : Int32)) (v := (.ref c11)) (by rw [e25]; exact Ar49.1) (State.isArrayOf_alike hZ.alike Ar49.2.1) rfl Ar49.2.2 hin49 hat49 (g := (mkF m 120 #[.val (.int z1), .val (.ref b1), .val (.int (12 : Int32)), .val (.int (0 : Int32))] [(.int (11 : Int32)), (.ref b1)])) rfl rfl (hb hby at_120) _ kont) ?_
    show own_Ends _ _ _ _ (T25.setTop (mkF m 121 #[.val (.int z1), .val (.ref b1), .val (.int 12), .val (.int 0)] [(.ref c11)]))
    obtain ⟨cq50, kq50, q50a, q50b, q50c⟩ := isOf hZ e25 (E_c11.ext O25.2)
    obtain ⟨_, _, ⟨T50, L50, k50, n50⟩, -, X50, ⟨Lc50, hQ50, l50, y50, z50⟩, st50⟩ := X25.virtualBack hx (y := oM0) (z := oM0) hown (mvT hZ (ow29 hw)) (mvT hZ (ow30 hw)) (notFace_of_selects (args := #[]) (mvT hZ (ow32 hw))) (mvT hZ (ow32 hw)) (mvT hZ (ow31 hw)) (by decide) (backOf (W := 0) (rm2 l Z a0 hw [] c11 c0 c1 c7 h25 n0 O25 S_c0 S_c1 S_c7) hZ (ow33 hw) (ow3 hw) (by decide) (by decide)) q50a q50c (g := (mkF m 121 #[.val (.int z1), .val (.ref b1), .val (.int (12 : Int32)), .val (.int (0 : Int32))] [(.ref c11)])) rfl (by rw [hml]; rfl) (Steps.refl _) (argsL := []) (rest := []) (lenOf pd_0 rfl) rfl (by show 2 * 0 + _ ≤ _; exact Nat.le_of_eq rfl) (hb hby at_121) (fun _ _ => ⟨rfl, e25, (own_le rfl), (own_le rfl)⟩)
    dsimp only [Pt.U, Pt.locs, Pt.cells, Pt.slots] at X50 l50 y50 z50 st50 hQ50
    subst l50 y50 z50
    obtain ⟨hv50, N50q, E50⟩ := hQ50
    rw [own_is_no (Fld.ne F_c11 F_c0 (own_intne (by decide))) (Fld.ne F_c11 F_c1 (own_intne (by decide))) (Fld.ne F_c11 F_c7 (own_intne (by decide)))] at hv50
    subst hv50
    have N50 := Fr.app N25 N50q
    refine own_tr st50 ?_
    show own_Ends _ _ _ _ (T50.setTop (mkF m 124 #[.val (.int z1), .val (.ref b1), .val (.int 12), .val (.int 0)] [(.int 0)]))
    refine own_to (fun _ kont => XS.iloadN X50.here hx rfl (hb hby at_124) rfl kont) ?_
    show own_Ends _ _ _ _ (T50.setTop (mkF m 125 #[.val (.int z1), .val (.ref b1), .val (.int 12), .val (.int 0)] [(.int 0), (.int 0)]))
    refine own_to (fun _ kont => XS.icmpNo X50.here hx rfl (hb hby at_125) rfl (teq (by decide)).2 kont) ?_
    show own_Ends _ _ _ _ (T50.setTop (mkF m 128 #[.val (.int z1), .val (.ref b1), .val (.int 12), .val (.int 0)] []))
    refine own_to (fun _ kont => XS.iconst X50.here hx rfl (hb hby at_128) kont) ?_
    show own_Ends _ _ _ _ (T50.setTop (mkF m 129 #[.val (.int z1), .val (.ref b1), .val (.int 12), .val (.int 0)] [(.int 1)]))
    refine own_to (fun _ kont => XS.goto X50.here hx rfl (pc0 := 129) (pc' := 133) rfl (hb hby at_129) (by decide) (by decide) kont) ?_
    show own_Ends _ _ _ _ (T50.setTop (mkF m 133 #[.val (.int z1), .val (.ref b1), .val (.int 12), .val (.int 0)] [(.int 1)]))
    refine own_leave X50 (v := some (.int (1 : Int32))) (fun h => by rw [Bd.returns] at h; cases h) ?_ (by decide) (by decide) (fun fs hr => retN X50 hx (t := .boolean) Bd.returns (by simp) (hb hby at_133) hr)
    show Q_rm0 Z z1 c0 c1 c2 c3 c4 c5 c6 c7 c8 c9 c10 c11 h0 n0 _ T50.heap _
    rw [E50]
    exact ⟨rfl, N50⟩
set_option maxRecDepth 65536 in
set_option maxHeartbeats 40000000 in
theorem comes_1 {Post : Tables → Env → Array Value → State → Outcome → State → Prop} (hpost : ∀ tb e args s v u, (limb_1_1.after args s (.returned v) u = true ∧ limb_1_2.after args s (.returned v) u = true ∧ True) → FrameEnd s (.returned v) u (Jvm.fieldLocs frame_1_writes args s ++ Jvm.arrayLocs frame_1_arrays args s ++ Jvm.staticLocs frame_1_statics s) 16 128 → Post tb e args s (.returned v) u) :
    ArmFor flags0 classFile x code maxLocals ret World_1 tables_1 room_1 Calls_1 rest_1 Pre_1 Post := by
  intro l hfl _ _ p e ha hc hk s m args below hf hA hF happ hP
  obtain ⟨hcalls, hrest, hpre⟩ := hP
  obtain ⟨-, -, -, hnamed, -, -, -, hat⟩ := (Spec.applies_iff hf).mp happ
  obtain ⟨hg, hn⟩ := and_e (Cond.before_iff.mp (show (Jvm.Cond.and given_1 narrow_1).before args s = true from hpre))
  obtain ⟨gc0, hg0⟩ := and_e hg
  have gc1 := hg0
  obtain ⟨nc0, hn0⟩ := and_e hn
  obtain ⟨nc1, hn1⟩ := and_e hn0
  obtain ⟨nc2, hn2⟩ := and_e hn1
  obtain ⟨nc3, hn3⟩ := and_e hn2
  obtain ⟨nc4, hn4⟩ := and_e hn3
  obtain ⟨nc5, hn5⟩ := and_e hn4
  obtain ⟨nc6, hn6⟩ := and_e hn5
  obtain ⟨nc7, hn7⟩ := and_e hn6
  obtain ⟨nc8, hn8⟩ := and_e hn7
  obtain ⟨nc9, hn9⟩ := and_e hn8
  obtain ⟨nc10, hn10⟩ := and_e hn9
  obtain ⟨nc11, hn11⟩ := and_e hn10
  obtain ⟨nc12, hn12⟩ := and_e hn11
  obtain ⟨nc13, hn13⟩ := and_e hn12
  obtain ⟨nc14, hn14⟩ := and_e hn13
  obtain ⟨nc15, hn15⟩ := and_e hn14
  obtain ⟨nc16, hn16⟩ := and_e hn15
  obtain ⟨nc17, hn17⟩ := and_e hn16
  obtain ⟨nc18, hn18⟩ := and_e hn17
  obtain ⟨nc19, hn19⟩ := and_e hn18
  obtain ⟨nc20, hn20⟩ := and_e hn19
  obtain ⟨nc21, hn21⟩ := and_e hn20
  obtain ⟨nc22, hn22⟩ := and_e hn21
  have nc23 := hn22
  obtain ⟨w0, rfl⟩ : ∃ w0 : Value, args = #[w0] := by
    have hs : args.size = 1 := by simpa [Cond.value, given_1] using gc0
    obtain ⟨L⟩ := args
    match L, hs with
    | [w0], _ => exact ⟨w0, rfl⟩
  have hw := fun d (hd : d ∈ tables_1) => atoms_spec (ws := Jvm.Cond.code x code maxLocals ret :: tables_1) hat d (List.mem_cons_of_mem _ hd)
  have hfit : Fit s := fun {y c} hc i hi => by
    obtain ⟨ha, rfl⟩ := Array.getElem?_eq_some_iff.mp hc
    have q := List.all_eq_true.mp ((Array.all_eq_true_iff_forall_mem.mp hF) _ (Array.getElem_mem ha)) i (List.mem_range.mpr hi)
    simpa [Array.getElem?_eq_getElem hi] using q
  obtain ⟨i0, ei0⟩ := is_v gc1
  obtain rfl : w0 = (.int i0) := Option.some.inj ei0
  obtain ⟨c0, ev_c0⟩ := exa_v nc0
  have E_c0 : Exa s s.heap c0 "com/example/latmere/latmere/spatial/GeometryType" := Exa.start ev_c0 nc0
  have S_c0 : Sta s s.heap "com/example/latmere/latmere/spatial/GeometryType" "POINT" "Lcom/example/latmere/latmere/spatial/GeometryType;" (.ref c0) := Sta.start ev_c0 (Or.inr ⟨(ow3 hw), (ow4 hw)⟩)
  obtain ⟨c1, ev_c1⟩ := exa_v nc1
  have E_c1 : Exa s s.heap c1 "com/example/latmere/latmere/spatial/GeometryType" := Exa.start ev_c1 nc1
  have S_c1 : Sta s s.heap "com/example/latmere/latmere/spatial/GeometryType" "LINESTRING" "Lcom/example/latmere/latmere/spatial/GeometryType;" (.ref c1) := Sta.start ev_c1 (Or.inr ⟨(ow3 hw), (ow7 hw)⟩)
  obtain ⟨c2, ev_c2⟩ := exa_v nc2
  have E_c2 : Exa s s.heap c2 "com/example/latmere/latmere/spatial/GeometryType" := Exa.start ev_c2 nc2
  have S_c2 : Sta s s.heap "com/example/latmere/latmere/spatial/GeometryType" "POLYGON" "Lcom/example/latmere/latmere/spatial/GeometryType;" (.ref c2) := Sta.start ev_c2 (Or.inr ⟨(ow3 hw), (ow9 hw)⟩)
  obtain ⟨c3, ev_c3⟩ := exa_v nc3
  have E_c3 : Exa s s.heap c3 "com/example/latmere/latmere/spatial/GeometryType" := Exa.start ev_c3 nc3
  have S_c3 : Sta s s.heap "com/example/latmere/latmere/spatial/GeometryType" "MULTIPOINT" "Lcom/example/latmere/latmere/spatial/GeometryType;" (.ref c3) := Sta.start ev_c3 (Or.inr ⟨(ow3 hw), (ow11 hw)⟩)
  obtain ⟨c4, ev_c4⟩ := exa_v nc4
  have E_c4 : Exa s s.heap c4 "com/example/latmere/latmere/spatial/GeometryType" := Exa.start ev_c4 nc4
  have S_c4 : Sta s s.heap "com/example/latmere/latmere/spatial/GeometryType" "MULTILINESTRING" "Lcom/example/latmere/latmere/spatial/GeometryType;" (.ref c4) := Sta.start ev_c4 (Or.inr ⟨(ow3 hw), (ow13 hw)⟩)
  obtain ⟨c5, ev_c5⟩ := exa_v nc5
  have E_c5 : Exa s s.heap c5 "com/example/latmere/latmere/spatial/GeometryType" := Exa.start ev_c5 nc5
  have S_c5 : Sta s s.heap "com/example/latmere/latmere/spatial/GeometryType" "MULTIPOLYGON" "Lcom/example/latmere/latmere/spatial/GeometryType;" (.ref c5) := Sta.start ev_c5 (Or.inr ⟨(ow3 hw), (ow15 hw)⟩)
  obtain ⟨c6, ev_c6⟩ := exa_v nc6
  have E_c6 : Exa s s.heap c6 "com/example/latmere/latmere/spatial/GeometryType" := Exa.start ev_c6 nc6
  have S_c6 : Sta s s.heap "com/example/latmere/latmere/spatial/GeometryType" "GEOMETRYCOLLECTION" "Lcom/example/latmere/latmere/spatial/GeometryType;" (.ref c6) := Sta.start ev_c6 (Or.inr ⟨(ow3 hw), (ow17 hw)⟩)
  obtain ⟨c7, ev_c7⟩ := exa_v nc7
  have E_c7 : Exa s s.heap c7 "com/example/latmere/latmere/spatial/GeometryType" := Exa.start ev_c7 nc7
  have S_c7 : Sta s s.heap "com/example/latmere/latmere/spatial/GeometryType" "CIRCULARSTRING" "Lcom/example/latmere/latmere/spatial/GeometryType;" (.ref c7) := Sta.start ev_c7 (Or.inr ⟨(ow3 hw), (ow19 hw)⟩)
  obtain ⟨c8, ev_c8⟩ := exa_v nc8
  have E_c8 : Exa s s.heap c8 "com/example/latmere/latmere/spatial/GeometryType" := Exa.start ev_c8 nc8
  have S_c8 : Sta s s.heap "com/example/latmere/latmere/spatial/GeometryType" "COMPOUNDCURVE" "Lcom/example/latmere/latmere/spatial/GeometryType;" (.ref c8) := Sta.start ev_c8 (Or.inr ⟨(ow3 hw), (ow21 hw)⟩)
  obtain ⟨c9, ev_c9⟩ := exa_v nc9
  have E_c9 : Exa s s.heap c9 "com/example/latmere/latmere/spatial/GeometryType" := Exa.start ev_c9 nc9
  have S_c9 : Sta s s.heap "com/example/latmere/latmere/spatial/GeometryType" "CURVEPOLYGON" "Lcom/example/latmere/latmere/spatial/GeometryType;" (.ref c9) := Sta.start ev_c9 (Or.inr ⟨(ow3 hw), (ow23 hw)⟩)
  obtain ⟨c10, ev_c10⟩ := exa_v nc10
  have E_c10 : Exa s s.heap c10 "com/example/latmere/latmere/spatial/GeometryType" := Exa.start ev_c10 nc10
  have S_c10 : Sta s s.heap "com/example/latmere/latmere/spatial/GeometryType" "MULTICURVE" "Lcom/example/latmere/latmere/spatial/GeometryType;" (.ref c10) := Sta.start ev_c10 (Or.inr ⟨(ow3 hw), (ow25 hw)⟩)
  obtain ⟨c11, ev_c11⟩ := exa_v nc11
  have E_c11 : Exa s s.heap c11 "com/example/latmere/latmere/spatial/GeometryType" := Exa.start ev_c11 nc11
  have S_c11 : Sta s s.heap "com/example/latmere/latmere/spatial/GeometryType" "MULTISURFACE" "Lcom/example/latmere/latmere/spatial/GeometryType;" (.ref c11) := Sta.start ev_c11 (Or.inr ⟨(ow3 hw), (ow27 hw)⟩)
  have F_c3_ordinal : Fld s s.heap c3 "java/lang/Enum" "ordinal" "I" (.int (3 : Int32)) := Fld.start ((fld_at ev_c3).symm.trans (own_eqI nc12))
  have F_c0_ordinal : Fld s s.heap c0 "java/lang/Enum" "ordinal" "I" (.int (0 : Int32)) := Fld.start ((fld_at ev_c0).symm.trans (own_eqI nc13))
  have F_c1_ordinal : Fld s s.heap c1 "java/lang/Enum" "ordinal" "I" (.int (1 : Int32)) := Fld.start ((fld_at ev_c1).symm.trans (own_eqI nc14))
  have F_c7_ordinal : Fld s s.heap c7 "java/lang/Enum" "ordinal" "I" (.int (7 : Int32)) := Fld.start ((fld_at ev_c7).symm.trans (own_eqI nc15))
  have F_c2_ordinal : Fld s s.heap c2 "java/lang/Enum" "ordinal" "I" (.int (2 : Int32)) := Fld.start ((fld_at ev_c2).symm.trans (own_eqI nc16))
  have F_c11_ordinal : Fld s s.heap c11 "java/lang/Enum" "ordinal" "I" (.int (11 : Int32)) := Fld.start ((fld_at ev_c11).symm.trans (own_eqI nc17))
  have F_c4_ordinal : Fld s s.heap c4 "java/lang/Enum" "ordinal" "I" (.int (4 : Int32)) := Fld.start ((fld_at ev_c4).symm.trans (own_eqI nc18))
  have F_c8_ordinal : Fld s s.heap c8 "java/lang/Enum" "ordinal" "I" (.int (8 : Int32)) := Fld.start ((fld_at ev_c8).symm.trans (own_eqI nc19))
  have F_c10_ordinal : Fld s s.heap c10 "java/lang/Enum" "ordinal" "I" (.int (10 : Int32)) := Fld.start ((fld_at ev_c10).symm.trans (own_eqI nc20))
  have F_c9_ordinal : Fld s s.heap c9 "java/lang/Enum" "ordinal" "I" (.int (9 : Int32)) := Fld.start ((fld_at ev_c9).symm.trans (own_eqI nc21))
  have F_c6_ordinal : Fld s s.heap c6 "java/lang/Enum" "ordinal" "I" (.int (6 : Int32)) := Fld.start ((fld_at ev_c6).symm.trans (own_eqI nc22))
  have F_c5_ordinal : Fld s s.heap c5 "java/lang/Enum" "ordinal" "I" (.int (5 : Int32)) := Fld.start ((fld_at ev_c5).symm.trans (own_eqI nc23))
  obtain ⟨n, o, h1, h2, h3, _, L, rfl, ⟨rfl, N⟩, hq⟩ := rm0 l s _ hw tables_1 i0 c0 c1 c2 c3 c4 c5 c6 c7 c8 c9 c10 c11 s.heap s.heap.size (Old.start s) S_c0 S_c1 S_c2 S_c3 S_c4 S_c5 S_c6 S_c7 S_c8 S_c9 S_c10 S_c11 E_c0 E_c1 E_c2 E_c3 E_c4 E_c5 E_c6 E_c7 E_c8 E_c9 E_c10 E_c11 F_c0_ordinal F_c1_ordinal F_c2_ordinal F_c3_ordinal F_c4_ordinal F_c5_ordinal F_c6_ordinal F_c7_ordinal F_c8_ordinal F_c9_ordinal F_c10_ordinal F_c11_ordinal p e ha hc hk s m _ below hf ((Spec.applies_iff_loose hf).mp happ).1 ⟨rfl, State.Warmed39.refl s, rfl⟩ trivial
  refine ⟨n, _, h1, h2, h3, hpost _ _ _ _ _ _ ⟨Cond.after_iff.mpr rfl, Cond.after_iff.mpr (eq_i res_at (Term.int_eval (1)) rfl), trivial⟩ ⟨hq.1, hq.2.1, (hq.2.2.sift fun y hy => Or.inr (N y hy)).mono (by decide) (by decide)⟩⟩
theorem main_1_1 : Claimed_1_1 := comes_1 fun _ _ _ _ _ _ h hF => ⟨h.1, hF⟩
theorem main_1_2 : Claimed_1_2 := comes_1 fun _ _ _ _ _ _ h hF => ⟨h.2.1, hF⟩
end Jvm.Pilot.@@N@@
namespace Jvm.Pilot.@@N@@
open Jvm Jvm.ClassFile Sem Op Lib Jvm.Free Jvm.Stand Jvm.Pilot.@@N@@.Jvm.D
/-! MADE BY PROGRAM (witnessworld.py) out of the Statement's table words and the real class files: 13 classes; the members and pool entries that the words name. The judged class is class 1, her method 1. -/
namespace start1
open Jvm.ClassFile
def u (s : String) : CpInfo := .utf8 (stringToUtf16 s)
/-- a pool by its gaps: so many unusable entries, then the entry; so many at the end -/
def gap : Nat → List CpInfo → List CpInfo
  | 0, r => r
  | n + 1, r => .unusable :: gap n r
def poolList (es : List (Nat × CpInfo)) (last : Nat) : List CpInfo := es.foldr (fun e r => gap e.1 (e.2 :: r)) (gap last [])
def pool (es : List (Nat × CpInfo)) (last : Nat) : Array CpInfo := ⟨poolList es last⟩
def fileOf (pool : Array CpInfo) (this : Nat) (attrs : Array Attribute := #[]) (ms : Array MethodInfo := #[]) (fl : Nat := 33) (sup : Nat := 0) (ifs : Array Nat := #[]) (fds : Array FieldInfo := #[]) : ClassFile where
  minorVersion := 0
  majorVersion := 65
  constantPool := pool
  accessFlags := fl
  thisClass := this
  superClass := sup
  interfaces := ifs
  fields := fds
  methods := ms
  attributes := attrs
def plain (name : String) (sup : Option ClassId) : Class where
  name := name
  kind := .ordinary
  loader := none
  accessFlags := 33
  super := sup
  interfaces := #[]
  cf := none
  fields := #[]
  methods := #[]
  instanceTypes := #[]
  staticTypes := #[]
  resolved := #[]
  callSites := []
  init := .initialized
  statics := none
  mirror := none

def pool0 : Array CpInfo := pool [(5, u "<init>"), (0, u "()V"), (1, .class_ 10), (1, u "java/lang/Object")] 113

def k0m0 : Method := { name := "<init>", desc := "()V", sig := { parameters := [], returnType := none }, accessFlags := 1, code := none }
/-- java/lang/Object -/
def k0 : Class := { plain "java/lang/Object" none with
  accessFlags := 33
  interfaces := #[]
  cf := some (fileOf pool0 8 #[] #[{ accessFlags := 1, nameIndex := 5, descriptorIndex := 6, attributes := #[] }] 33 0 #[] #[])
  fields := #[]
  methods := #[k0m0]
  instanceTypes := #[]
  staticTypes := #[]
  resolved := Array.replicate 124 none
  statics := none }

def pool1 : Array CpInfo := pool [(2, .class_ 4), (1, u "java/lang/Object"), (0, u "<init>"), (0, u "()V"), (0, .class_ 8), (0, u "com/example/latmere/latmere/spatial/GeometryType"), (0, .fieldref 7 10), (0, .nameAndType 11 12), (0, u "POINT"), (0, u "Lcom/example/latmere/latmere/spatial/GeometryType;"), (0, .fieldref 7 14), (0, .nameAndType 15 12), (0, u "LINESTRING"), (0, .fieldref 7 17), (0, .nameAndType 18 12), (0, u "POLYGON"), (0, .fieldref 7 20), (0, .nameAndType 21 12), (0, u "MULTIPOINT"), (0, .fieldref 7 23), (0, .nameAndType 24 12), (0, u "MULTILINESTRING"), (0, .fieldref 7 26), (0, .nameAndType 27 12), (0, u "MULTIPOLYGON"), (0, .fieldref 7 29), (0, .nameAndType 30 12), (0, u "GEOMETRYCOLLECTION"), (0, .fieldref 7 32), (0, .nameAndType 33 12), (0, u "CIRCULARSTRING"), (0, .fieldref 7 35), (0, .nameAndType 36 12), (0, u "COMPOUNDCURVE"), (0, .fieldref 7 38), (0, .nameAndType 39 12), (0, u "CURVEPOLYGON"), (0, .fieldref 7 41), (0, .nameAndType 42 12), (0, u "MULTICURVE"), (0, .fieldref 7 44), (0, .nameAndType 45 12), (0, u "MULTISURFACE"), (0, .integer 2147483647), (0, .methodref 7 48), (0, .nameAndType 49 50), (0, u "holdsCoordinates"), (0, u "()Z"), (0, .class_ 52), (0, u "com/example/latmere/latmere/spatial/GeometryTypeHoldsCoordinatesPinLaw"), (2, u "law"), (0, u "(I)Z")] 5

def k1m0 : Method := { name := "<init>", desc := "()V", sig := { parameters := [], returnType := none }, accessFlags := 1, code := none }
def k1c1 : Code := { maxStack := 4, maxLocals := 4, code := code, exceptionTable := #[], attributes := #[] }
def k1m1 : Method := { name := "law", desc := "(I)Z", sig := { parameters := [.int], returnType := some .boolean }, accessFlags := 9, code := some k1c1 }
/-- com/example/latmere/latmere/spatial/GeometryTypeHoldsCoordinatesPinLaw -/
def k1 : Class := { plain "com/example/latmere/latmere/spatial/GeometryTypeHoldsCoordinatesPinLaw" (some 0) with
  accessFlags := 49
  interfaces := #[]
  cf := some (fileOf pool1 51 #[] #[{ accessFlags := 1, nameIndex := 5, descriptorIndex := 6, attributes := #[] }, { accessFlags := 9, nameIndex := 55, descriptorIndex := 56, attributes := #[] }] 49 2 #[] #[])
  fields := #[]
  methods := #[k1m0, k1m1]
  instanceTypes := #[]
  staticTypes := #[]
  resolved := Array.replicate 62 none
  statics := none }

def pool2 : Array CpInfo := pool [(1, .class_ 2), (0, u "java/lang/constant/Constable"), (0, .class_ 4), (0, u "java/lang/Object")] 6

/-- java/lang/constant/Constable -/
def k2 : Class := { plain "java/lang/constant/Constable" (some 0) with
  accessFlags := 1537
  interfaces := #[]
  cf := some (fileOf pool2 1 #[] #[] 1537 3 #[] #[])
  fields := #[]
  methods := #[]
  instanceTypes := #[]
  staticTypes := #[]
  resolved := Array.replicate 11 none
  statics := none }

def pool3 : Array CpInfo := pool [(1, .class_ 2), (0, u "java/lang/Comparable"), (0, .class_ 4), (0, u "java/lang/Object")] 7

/-- java/lang/Comparable -/
def k3 : Class := { plain "java/lang/Comparable" (some 0) with
  accessFlags := 1537
  interfaces := #[]
  cf := some (fileOf pool3 1 #[] #[] 1537 3 #[] #[])
  fields := #[]
  methods := #[]
  instanceTypes := #[]
  staticTypes := #[]
  resolved := Array.replicate 12 none
  statics := none }

def pool4 : Array CpInfo := pool [(1, .class_ 2), (0, u "java/io/Serializable"), (0, .class_ 4), (0, u "java/lang/Object")] 2

/-- java/io/Serializable -/
def k4 : Class := { plain "java/io/Serializable" (some 0) with
  accessFlags := 1537
  interfaces := #[]
  cf := some (fileOf pool4 1 #[] #[] 1537 3 #[] #[])
  fields := #[]
  methods := #[]
  instanceTypes := #[]
  staticTypes := #[]
  resolved := Array.replicate 7 none
  statics := none }

def pool5 : Array CpInfo := pool [(2, .class_ 4), (1, u "java/lang/Enum"), (0, u "name"), (0, u "Ljava/lang/String;"), (2, u "ordinal"), (0, u "I"), (1, .class_ 14), (1, u "java/lang/Object"), (4, u "hash"), (86, .class_ 108), (1, u "java/lang/Enum$EnumDesc"), (2, .class_ 112), (0, u "java/lang/constant/Constable"), (0, .class_ 114), (0, u "java/lang/Comparable"), (0, .class_ 116), (0, u "java/io/Serializable")] 87

/-- java/lang/Enum -/
def k5 : Class := { plain "java/lang/Enum" (some 0) with
  accessFlags := 1057
  interfaces := #[2, 3, 4]
  cf := some (fileOf pool5 2 #[.nestMembers #[106]] #[] 1057 12 #[111, 113, 115] #[{ accessFlags := 18, nameIndex := 5, descriptorIndex := 6, attributes := #[] }, { accessFlags := 18, nameIndex := 9, descriptorIndex := 10, attributes := #[] }, { accessFlags := 2, nameIndex := 19, descriptorIndex := 10, attributes := #[] }])
  fields := #[{ name := "name", type := (.object "java/lang/String"), accessFlags := 18, slot := 0, constantValue := 0 }, { name := "ordinal", type := .int, accessFlags := 18, slot := 1, constantValue := 0 }, { name := "hash", type := .int, accessFlags := 2, slot := 2, constantValue := 0 }]
  methods := #[]
  instanceTypes := #[(.object "java/lang/String"), .int, .int]
  staticTypes := #[]
  resolved := Array.replicate 204 none
  statics := none }

def pool6 : Array CpInfo := pool [(1, .class_ 2), (0, u "com/example/latmere/latmere/spatial/GeometryType"), (0, .fieldref 1 4), (0, .nameAndType 5 6), (0, u "POINT"), (0, u "Lcom/example/latmere/latmere/spatial/GeometryType;"), (0, .fieldref 1 8), (0, .nameAndType 9 6), (0, u "LINESTRING"), (2, u "POLYGON"), (2, u "MULTIPOINT"), (2, u "MULTILINESTRING"), (2, u "MULTIPOLYGON"), (2, u "GEOMETRYCOLLECTION"), (0, .fieldref 1 26), (0, .nameAndType 27 6), (0, u "CIRCULARSTRING"), (2, u "COMPOUNDCURVE"), (2, u "CURVEPOLYGON"), (2, u "MULTICURVE"), (2, u "MULTISURFACE"), (2, u "$VALUES"), (0, u "[Lcom/example/latmere/latmere/spatial/GeometryType;"), (6, .class_ 52), (1, u "java/lang/Enum"), (8, u "BY_CODE"), (21, u "()Z"), (32, u "holdsCoordinates")] 9

def k6c0 : Code := { maxStack := 2, maxLocals := 1, code := prog_35_method_5_code, exceptionTable := #[], attributes := #[] }
def k6m0 : Method := { name := "holdsCoordinates", desc := "()Z", sig := { parameters := [], returnType := some .boolean }, accessFlags := 0, code := some k6c0 }
/-- com/example/latmere/latmere/spatial/GeometryType -/
def k6 : Class := { plain "com/example/latmere/latmere/spatial/GeometryType" (some 5) with
  accessFlags := 16432
  interfaces := #[]
  cf := some (fileOf pool6 1 #[] #[{ accessFlags := 0, nameIndex := 116, descriptorIndex := 83, attributes := #[] }] 16432 50 #[] #[{ accessFlags := 16409, nameIndex := 5, descriptorIndex := 6, attributes := #[] }, { accessFlags := 16409, nameIndex := 9, descriptorIndex := 6, attributes := #[] }, { accessFlags := 16409, nameIndex := 12, descriptorIndex := 6, attributes := #[] }, { accessFlags := 16409, nameIndex := 15, descriptorIndex := 6, attributes := #[] }, { accessFlags := 16409, nameIndex := 18, descriptorIndex := 6, attributes := #[] }, { accessFlags := 16409, nameIndex := 21, descriptorIndex := 6, attributes := #[] }, { accessFlags := 16409, nameIndex := 24, descriptorIndex := 6, attributes := #[] }, { accessFlags := 16409, nameIndex := 27, descriptorIndex := 6, attributes := #[] }, { accessFlags := 16409, nameIndex := 30, descriptorIndex := 6, attributes := #[] }, { accessFlags := 16409, nameIndex := 33, descriptorIndex := 6, attributes := #[] }, { accessFlags := 16409, nameIndex := 36, descriptorIndex := 6, attributes := #[] }, { accessFlags := 16409, nameIndex := 39, descriptorIndex := 6, attributes := #[] }, { accessFlags := 26, nameIndex := 61, descriptorIndex := 43, attributes := #[] }, { accessFlags := 4122, nameIndex := 42, descriptorIndex := 43, attributes := #[] }])
  fields := #[{ name := "POINT", type := (.object "com/example/latmere/latmere/spatial/GeometryType"), accessFlags := 16409, slot := 0, constantValue := 0 }, { name := "LINESTRING", type := (.object "com/example/latmere/latmere/spatial/GeometryType"), accessFlags := 16409, slot := 1, constantValue := 0 }, { name := "POLYGON", type := (.object "com/example/latmere/latmere/spatial/GeometryType"), accessFlags := 16409, slot := 2, constantValue := 0 }, { name := "MULTIPOINT", type := (.object "com/example/latmere/latmere/spatial/GeometryType"), accessFlags := 16409, slot := 3, constantValue := 0 }, { name := "MULTILINESTRING", type := (.object "com/example/latmere/latmere/spatial/GeometryType"), accessFlags := 16409, slot := 4, constantValue := 0 }, { name := "MULTIPOLYGON", type := (.object "com/example/latmere/latmere/spatial/GeometryType"), accessFlags := 16409, slot := 5, constantValue := 0 }, { name := "GEOMETRYCOLLECTION", type := (.object "com/example/latmere/latmere/spatial/GeometryType"), accessFlags := 16409, slot := 6, constantValue := 0 }, { name := "CIRCULARSTRING", type := (.object "com/example/latmere/latmere/spatial/GeometryType"), accessFlags := 16409, slot := 7, constantValue := 0 }, { name := "COMPOUNDCURVE", type := (.object "com/example/latmere/latmere/spatial/GeometryType"), accessFlags := 16409, slot := 8, constantValue := 0 }, { name := "CURVEPOLYGON", type := (.object "com/example/latmere/latmere/spatial/GeometryType"), accessFlags := 16409, slot := 9, constantValue := 0 }, { name := "MULTICURVE", type := (.object "com/example/latmere/latmere/spatial/GeometryType"), accessFlags := 16409, slot := 10, constantValue := 0 }, { name := "MULTISURFACE", type := (.object "com/example/latmere/latmere/spatial/GeometryType"), accessFlags := 16409, slot := 11, constantValue := 0 }, { name := "BY_CODE", type := (.array (.object "com/example/latmere/latmere/spatial/GeometryType")), accessFlags := 26, slot := 12, constantValue := 0 }, { name := "$VALUES", type := (.array (.object "com/example/latmere/latmere/spatial/GeometryType")), accessFlags := 4122, slot := 13, constantValue := 0 }]
  methods := #[k6m0]
  instanceTypes := #[(.object "java/lang/String"), .int, .int]
  staticTypes := #[(.object "com/example/latmere/latmere/spatial/GeometryType"), (.object "com/example/latmere/latmere/spatial/GeometryType"), (.object "com/example/latmere/latmere/spatial/GeometryType"), (.object "com/example/latmere/latmere/spatial/GeometryType"), (.object "com/example/latmere/latmere/spatial/GeometryType"), (.object "com/example/latmere/latmere/spatial/GeometryType"), (.object "com/example/latmere/latmere/spatial/GeometryType"), (.object "com/example/latmere/latmere/spatial/GeometryType"), (.object "com/example/latmere/latmere/spatial/GeometryType"), (.object "com/example/latmere/latmere/spatial/GeometryType"), (.object "com/example/latmere/latmere/spatial/GeometryType"), (.object "com/example/latmere/latmere/spatial/GeometryType"), (.array (.object "com/example/latmere/latmere/spatial/GeometryType")), (.array (.object "com/example/latmere/latmere/spatial/GeometryType"))]
  resolved := Array.replicate 126 none
  statics := some 0 }

def pool7 : Array CpInfo := pool [(1, u "java/lang/Cloneable"), (0, .class_ 1), (0, u "java/lang/Object"), (0, .class_ 3)] 3

/-- java/lang/Cloneable -/
def k7 : Class := { plain "java/lang/Cloneable" (some 0) with
  accessFlags := 1537
  interfaces := #[]
  cf := some (fileOf pool7 2 #[] #[] 1537 4 #[] #[])
  fields := #[]
  methods := #[]
  instanceTypes := #[]
  staticTypes := #[]
  resolved := Array.replicate 8 none
  statics := none }

/-- the primitive byte -/
def k8 : Class := { plain "byte" none with kind := .primitive 'B', accessFlags := 0x411 }
/-- [B -/
def k9 : Class := { plain "[B" (some 0) with kind := .array 8 .byte, interfaces := #[7, 4], accessFlags := 1041 }

/-- the primitive int -/
def k10 : Class := { plain "int" none with kind := .primitive 'I', accessFlags := 0x411 }
/-- [I -/
def k11 : Class := { plain "[I" (some 0) with kind := .array 10 .int, interfaces := #[7, 4], accessFlags := 1041 }

/-- [Lcom/example/latmere/latmere/spatial/GeometryType; -/
def k12 : Class := { plain "[Lcom/example/latmere/latmere/spatial/GeometryType;" (some 0) with kind := .array 6 (.object "com/example/latmere/latmere/spatial/GeometryType"), interfaces := #[7, 4], accessFlags := 1041 }

def heap : Heap := #[{ cls := 6, slots := #[.ref 1, .ref 2, .ref 3, .ref 4, .ref 5, .ref 6, .ref 7, .ref 8, .ref 9, .ref 10, .ref 11, .ref 12, .null, .null], vm := .statics 6 },
  { cls := 6, slots := #[.null, .int 0, .int 0], vm := .none },
  { cls := 6, slots := #[.null, .int 1, .int 0], vm := .none },
  { cls := 6, slots := #[.null, .int 2, .int 0], vm := .none },
  { cls := 6, slots := #[.null, .int 3, .int 0], vm := .none },
  { cls := 6, slots := #[.null, .int 4, .int 0], vm := .none },
  { cls := 6, slots := #[.null, .int 5, .int 0], vm := .none },
  { cls := 6, slots := #[.null, .int 6, .int 0], vm := .none },
  { cls := 6, slots := #[.null, .int 7, .int 0], vm := .none },
  { cls := 6, slots := #[.null, .int 8, .int 0], vm := .none },
  { cls := 6, slots := #[.null, .int 9, .int 0], vm := .none },
  { cls := 6, slots := #[.null, .int 10, .int 0], vm := .none },
  { cls := 6, slots := #[.null, .int 11, .int 0], vm := .none }]
def classes : Array Class := #[k0, k1, k2, k3, k4, k5, k6, k7, k8, k9, k10, k11, k12]
def interned : List (Array UInt16 × Addr) := []
def slotsUsed : Nat := 50
def theMethod : MethodId := ⟨1, 1⟩
def args0 : Array Value := #[.int 5]
def aboutOver (below : List Frame) : State where
  vm := { classes := classes, interned := interned.toArray }
  heap := heap
  slotsUsed := slotsUsed
  threads := #[{ frames := .invoking theMethod args0 :: below }]
def below0 : List Frame := [.native { method := ⟨0, 0⟩, args := #[] }]
def about1 : State := aboutOver below0
def p0 : Program := .bare "" "" ""
def e0 : Env := launch0.env 0 0 0
theorem w_frames : about1.frames = Frame.invoking theMethod args0 :: below0 := rfl
set_option maxRecDepth 65536 in
theorem w_args : argsFit about1.vm theMethod args0 = true := by decide +kernel
set_option maxRecDepth 65536 in
theorem w_heap : heapFits about1 = true := by decide +kernel
set_option maxRecDepth 65536 in
theorem w_runnable : about1.curStatus? = some .runnable := by decide +kernel
set_option maxRecDepth 65536 in
theorem w_alone : about1.alone = true := by decide +kernel
set_option maxRecDepth 65536 in
theorem w_named : about1.methodNamed? x = some theMethod := by decide +kernel
set_option maxRecDepth 65536 in
theorem w_hears : about1.hears theMethod below0 = true := by decide +kernel
set_option maxRecDepth 65536 in
theorem w_ripe : about1.ripe theMethod args0 below0 = true := by decide +kernel
theorem w_running : about1.status = .running := rfl
set_option maxRecDepth 65536 in
theorem w_room : about1.hasRoom e0.platform room_1 = true :=
  launch0.hasRoom_least _ room_1 (by decide +kernel) (by decide +kernel) (by decide +kernel) (by decide +kernel) (by decide +kernel) (by decide +kernel)
theorem allAtoms_all (ts : List Jvm.Cond) (a : Array Jvm.Value) (st : Jvm.State) : (allAtoms ts).before a st = ts.all (fun c => c.before a st) := by
  induction ts with
  | nil => rfl
  | cons c t ih =>
    show (Jvm.Cond.and c (allAtoms t)).before a st = _
    rw [Jvm.Cond.before_and, ih, List.all_cons]
def words1 : List Jvm.Cond := Jvm.Cond.code x code maxLocals ret :: tables_1
/-- a 'code' word, met by the world's own term for the bytes: nothing is compared byte by byte -/
theorem code_word {y : MethodName} {bytes : ByteArray} {mx : Nat} {rt : Option FieldType} {a : Array Value} {s : State} {m : MethodId} {meth : Method} {c : Code} (h1 : s.methodNamed? y = some m) (h2 : s.vm.method? m = some meth) (h3 : meth.code = some c) (h4 : c.code = bytes)
    (h5 : (c.maxLocals == mx && c.exceptionTable.isEmpty && decide (c.maxStack ≤ mostOperands) && decide (meth.sig.returnType = rt) && !meth.locks && decide (parseMethodDescriptor y.desc = some meth.sig)) = true) : (Jvm.Cond.code y bytes mx rt).before a s = true := by
  simp only [Bool.and_eq_true, beq_iff_eq, Bool.not_eq_true', decide_eq_true_eq] at h5
  obtain ⟨⟨⟨⟨⟨g1, g2⟩, g3⟩, g4⟩, g5⟩, g6⟩ := h5
  simp [Cond.before, Cond.holds, Cond.value, h1, h2, h3, h4, g1, g2, g3, g4, g5, g6]
def isCode : Jvm.Cond → Bool
  | .code _ _ _ _ => true
  | _ => false
theorem all_split {L : List Jvm.Cond} {P : Jvm.Cond → Bool} (h1 : L.all (fun c => isCode c || P c) = true) (h2 : ∀ c ∈ L.filter isCode, P c = true) : L.all P = true := by
  refine List.all_eq_true.mpr fun c hc => ?_
  have h := List.all_eq_true.mp h1 c hc
  rcases Bool.eq_false_or_eq_true (isCode c) with hi | hi
  · exact h2 c (List.mem_filter.mpr ⟨hc, hi⟩)
  · simpa [hi] using h
set_option maxRecDepth 65536 in
theorem w_c0 : (Jvm.Cond.code x code maxLocals ret).before args0 about1 = true := code_word (m := ⟨1, 1⟩) (meth := k1m1) (c := k1c1) (by decide +kernel) rfl rfl rfl (by decide +kernel)
set_option maxRecDepth 65536 in
theorem w_c1 : (Jvm.Cond.code ({ cls := "com/example/latmere/latmere/spatial/GeometryType", name := "holdsCoordinates", desc := "()Z" } : Jvm.MethodName) prog_35_method_5_code (1 : Nat) (Option.some Jvm.ClassFile.FieldType.boolean)).before args0 about1 = true := code_word (m := ⟨6, 0⟩) (meth := k6m0) (c := k6c0) (by decide +kernel) rfl rfl rfl (by decide +kernel)
def codes1 : List Jvm.Cond := [Jvm.Cond.code x code maxLocals ret, Jvm.Cond.code ({ cls := "com/example/latmere/latmere/spatial/GeometryType", name := "holdsCoordinates", desc := "()Z" } : Jvm.MethodName) prog_35_method_5_code (1 : Nat) (Option.some Jvm.ClassFile.FieldType.boolean)]
set_option maxRecDepth 65536 in
theorem codes_eq : words1.filter isCode = codes1 := rfl
theorem w_codes : ∀ c ∈ words1.filter isCode, c.before args0 about1 = true := by
  rw [codes_eq]
  intro c hc
  simp only [codes1, List.mem_cons, List.not_mem_nil, or_false] at hc
  rcases hc with rfl | rfl
  · exact w_c0
  · exact w_c1
set_option maxRecDepth 65536 in
theorem w_t1 : (words1.take 24).all (fun c => isCode c || c.before args0 about1) = true := by decide +kernel
set_option maxRecDepth 65536 in
theorem w_t2 : (words1.drop 24).all (fun c => isCode c || c.before args0 about1) = true := by decide +kernel
theorem w_tables : (allAtoms (Jvm.Cond.code x code maxLocals ret :: tables_1)).before args0 about1 = true := by
  rw [allAtoms_all]
  show words1.all (fun c => c.before args0 about1) = true
  refine all_split ?_ w_codes
  rw [← List.take_append_drop 24 words1, List.all_append, w_t1, w_t2]
  rfl
set_option maxRecDepth 65536 in
theorem w_case : (Jvm.Cond.and given_1 narrow_1).before args0 about1 = true := by decide +kernel
theorem w_applies : (headSpec (Jvm.Cond.code x code maxLocals ret :: tables_1) room_1).applies x e0.platform about1 = true :=
  (Spec.applies_iff w_frames).mpr ⟨w_running, w_runnable, w_alone, w_named, w_hears, w_ripe, w_room, w_tables⟩
theorem atStart : AtStart classFile x code maxLocals ret World_1 tables_1 room_1 Calls_1 rest_1 Pre_1 launch0 p0 e0 about1 theMethod args0 below0 :=
  ⟨lists_1, trivial, launch0.admits_env _ _ _, launch0.least_env, fairChoices_fair.cas, fairChoices_fair.clock, w_frames, w_args, w_heap, w_applies, trivial, trivial, w_case⟩
end start1
theorem witness_1 : WitnessClaimed_1 := ⟨start1.p0, start1.e0, start1.about1, start1.theMethod, start1.args0, start1.below0, start1.atStart⟩
end Jvm.Pilot.@@N@@
