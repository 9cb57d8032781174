import JvmDerived
import JvmDerived.Pilot.@@N@@Statement
import JvmDerived.Pilot.@@N@@Code
set_option linter.unusedVariables false
set_option linter.unusedSimpArgs false
namespace Jvm.Pilot.@@N@@
open Jvm Jvm.ClassFile Sem Op Lib Jvm.Free Jvm.Stand Jvm.LawKit Jvm.RoadKit Bundle Jvm.Pilot.@@N@@.Jvm.D
def own_Ends (tb : Tables) (e : Env) (below : List Frame) (P : Outcome → State → Prop) (S : State) : Prop := ∃ t o, Steps tb e below S t ∧ t.status = .running ∧ Ended t below o ∧ P o t
theorem own_to {tb : Tables} {e : Env} {below : List Frame} {P : Outcome → State → Prop} {S S' : State} (h : ∀ target, Steps tb e below S' target → Steps tb e below S target) (g : own_Ends tb e below P S') : own_Ends tb e below P S := by
  obtain ⟨t, o, h1, r⟩ := g
  exact ⟨t, o, h _ h1, r⟩
theorem own_tr {tb : Tables} {e : Env} {below : List Frame} {P : Outcome → State → Prop} {S S' : State} (h : Steps tb e below S S') (g : own_Ends tb e below P S') : own_Ends tb e below P S := by
  obtain ⟨t, o, h1, r⟩ := g
  exact ⟨t, o, h.trans h1, r⟩
theorem own_cast {tb : Tables} {e : Env} {below : List Frame} {P : Outcome → State → Prop} {T : State} {f f' : JFrame} (q : f = f') (g : own_Ends tb e below P (T.setTop f')) : own_Ends tb e below P (T.setTop f) := q ▸ g
def own_P (s : State) (Q : Option Value → Heap → List Loc → Prop) (ck sk : Nat) : Outcome → State → Prop := fun o U' => ∃ v L, o = .returned v ∧ Q v U'.heap L ∧ FrameEnd s o U' L ck sk
theorem own_leave {p : Program} {l : Launch} {e : Env} {R : Room} {s : State} {m : MethodId} {args : Array Value} {below : List Frame} {meth : Method} {c : Code} {T : State} {locs : List Loc} {cells slots : Nat} {F : JFrame} {Q : Option Value → Heap → List Loc → Prop} {ck sk : Nat}
    (X : Stand p l e R s m args below meth c T locs cells slots) {v : Option Value} (hv : meth.sig.returnType = none → v = none) (hQ : Q v T.heap locs) (hc : cells ≤ ck) (hs : slots ≤ sk)
    (hst : ∀ fs, (∀ (f : JFrame) (acts : List Action), f.method = m → f.locked = none → f.entered = [] → (doReturn e (T.setTop f) acts v).1 = T.setFrames fs) → Steps p.tables e below (T.setTop F) (T.setFrames fs)) (hlocks : meth.locks = false := by first | assumption | exact BodyLoose.notSynchronized (by assumption) | exact Body.notSynchronized (by assumption)) : own_Ends p.tables e below (own_P s Q ck sk) (T.setTop F) := by
  obtain ⟨fs, hr, hrun, hended, hW, hsame⟩ := X.leave hv hlocks
  exact ⟨_, _, hst fs hr, hrun, hended, _, _, rfl, hQ, ⟨_, rfl⟩, hW, hsame.mono hc hs⟩
def own_PW (s : State) (Q : Option Value → Heap → List Loc → Prop) (ck sk : Nat) : Outcome → State → Prop := fun o U' => ∃ v L, o = .returned v ∧ Q v U'.heap L ∧ ReturnedEndW s o U' L ck sk
theorem own_leaveW {p : Program} {l : Launch} {e : Env} {R : Room} {s : State} {vm1 : Vm} {m : MethodId} {args : Array Value} {below : List Frame} {meth : Method} {c : Code} {T : State} {locs : List Loc} {cells slots : Nat} {F : JFrame} {Q : Option Value → Heap → List Loc → Prop} {ck sk k0 : Nat}
    (X : Stand p l e R (s.setVm vm1) m args below meth c T locs cells slots) (hS : s.Since vm1 k0) (hk : k0 ≤ T.heap.size) {v : Option Value} (hv : meth.sig.returnType = none → v = none) (hQ : Q v T.heap locs) (hc : cells ≤ ck) (hs : slots ≤ sk)
    (hst : ∀ fs, (∀ (f : JFrame) (acts : List Action), f.method = m → f.locked = none → f.entered = [] → (doReturn e (T.setTop f) acts v).1 = T.setFrames fs) → Steps p.tables e below (T.setTop F) (T.setFrames fs)) (hlocks : meth.locks = false := by first | assumption | exact BodyLoose.notSynchronized (by assumption) | exact Body.notSynchronized (by assumption)) : own_Ends p.tables e below (own_PW s Q ck sk) (T.setTop F) := by
  obtain ⟨fs, hr, hrun, hended, h1, h2, h3, h4⟩ := X.leaveW hS hk hv hlocks
  exact ⟨_, _, hst fs hr, hrun, hended, _, _, rfl, hQ, h1, h2, h3, h4.mono hc hs⟩
theorem own_old_le {Z : State} {n0 : Nat} {h : Heap} (O : Old Z n0 h) : n0 ≤ h.size := O.1 ▸ O.2.1
theorem own_le {a b : Nat} (h : Nat.ble a b = true) : a ≤ b := Nat.le_of_ble_eq_true h
theorem own_lt {a b : Nat} (h : Nat.ble (a + 1) b = true) : a < b := Nat.le_of_ble_eq_true h
theorem own_irr (x : Int32) : ¬ x < x := by rw [Int32.lt_iff_toInt_lt]; omega
theorem own_eqI {args : Array Value} {s : State} {t : Term} {k : Int32} (h : (Jvm.Cond.eq t (.int k)).value args s none s [] = some true) : t.eval args s none [] s = some (.int k) := by
  obtain ⟨x, y, hx, hy, -, hk⟩ := cmp_v (Or.inl h)
  cases (show some (Value.int k) = some y from hy)
  obtain ⟨z, rfl⟩ := hk
  have e : (Term.int k).eval args s none [] s = some (.int k) := rfl
  simp only [Cond.value, hx, e, Option.some.injEq, decide_eq_true_eq] at h
  rw [hx]
  simp_all
theorem own_intne {a b : Int32} (h : a ≠ b) : Value.int a ≠ Value.int b := fun q => h (Value.int.inj q)

abbrev oM0 : MethodName := ⟨"java/lang/Record", "<init>", "()V"⟩
abbrev oM1 : MethodName := ⟨"java/lang/Double", "isFinite", "(D)Z"⟩
abbrev oM2 : MethodName := ⟨"java/lang/Math", "abs", "(D)D"⟩
abbrev oM3 : MethodName := ⟨"com/example/latmere/latmere/spatial/MapUnit", "<init>", "(ZD)V"⟩
abbrev oM4 : MethodName := ⟨"com/example/latmere/latmere/spatial/MapUnit", "metres", "(D)D"⟩
theorem ow0 {Z : State} {a0 : Array Value} (hw : ∀ d ∈ tables_1, d.before a0 Z = true) : (Jvm.Cond.constant "com/example/latmere/latmere/spatial/MapUnitMetresPinLaw" (7 : Nat) (1048575 : Int32)).before a0 Z = true := hw _ (List.mem_of_getElem? (i := 0) rfl)
theorem ow1 {Z : State} {a0 : Array Value} (hw : ∀ d ∈ tables_1, d.before a0 Z = true) : (Jvm.Cond.classLink "com/example/latmere/latmere/spatial/MapUnitMetresPinLaw" (8 : Nat) "com/example/latmere/latmere/spatial/MapUnit").before a0 Z = true := hw _ (List.mem_of_getElem? (i := 1) rfl)
theorem ow2 {Z : State} {a0 : Array Value} (hw : ∀ d ∈ tables_1, d.before a0 Z = true) : (Jvm.Cond.instantiable "com/example/latmere/latmere/spatial/MapUnit" (2 : Nat)).before a0 Z = true := hw _ (List.mem_of_getElem? (i := 2) rfl)
theorem ow3 {Z : State} {a0 : Array Value} (hw : ∀ d ∈ tables_1, d.before a0 Z = true) : (Jvm.Cond.initialized "com/example/latmere/latmere/spatial/MapUnit").before a0 Z = true := hw _ (List.mem_of_getElem? (i := 3) rfl)
theorem ow4 {Z : State} {a0 : Array Value} (hw : ∀ d ∈ tables_1, d.before a0 Z = true) : (Jvm.Cond.methodLink "com/example/latmere/latmere/spatial/MapUnitMetresPinLaw" (10 : Nat) ({ cls := "com/example/latmere/latmere/spatial/MapUnit", name := "<init>", desc := "(ZD)V" } : Jvm.MethodName)).before a0 Z = true := hw _ (List.mem_of_getElem? (i := 4) rfl)
theorem ow5 {Z : State} {a0 : Array Value} (hw : ∀ d ∈ tables_1, d.before a0 Z = true) : (Jvm.Cond.instanceMethod ({ cls := "com/example/latmere/latmere/spatial/MapUnit", name := "<init>", desc := "(ZD)V" } : Jvm.MethodName)).before a0 Z = true := hw _ (List.mem_of_getElem? (i := 5) rfl)
theorem ow6 {Z : State} {a0 : Array Value} (hw : ∀ d ∈ tables_1, d.before a0 Z = true) : (Jvm.Cond.code ({ cls := "com/example/latmere/latmere/spatial/MapUnit", name := "<init>", desc := "(ZD)V" } : Jvm.MethodName) prog_36_method_1_code (4 : Nat) (Option.none : Option Jvm.ClassFile.FieldType)).before a0 Z = true := hw _ (List.mem_of_getElem? (i := 6) rfl)
theorem ow7 {Z : State} {a0 : Array Value} (hw : ∀ d ∈ tables_1, d.before a0 Z = true) : (Jvm.Cond.methodLink "com/example/latmere/latmere/spatial/MapUnit" (1 : Nat) ({ cls := "java/lang/Record", name := "<init>", desc := "()V" } : Jvm.MethodName)).before a0 Z = true := hw _ (List.mem_of_getElem? (i := 7) rfl)
theorem ow8 {Z : State} {a0 : Array Value} (hw : ∀ d ∈ tables_1, d.before a0 Z = true) : (Jvm.Cond.instanceMethod ({ cls := "java/lang/Record", name := "<init>", desc := "()V" } : Jvm.MethodName)).before a0 Z = true := hw _ (List.mem_of_getElem? (i := 8) rfl)
theorem ow10 {Z : State} {a0 : Array Value} (hw : ∀ d ∈ tables_1, d.before a0 Z = true) : (Jvm.Cond.initialized "java/lang/Record").before a0 Z = true := hw _ (List.mem_of_getElem? (i := 10) rfl)
theorem ow11 {Z : State} {a0 : Array Value} (hw : ∀ d ∈ tables_1, d.before a0 Z = true) : (Jvm.Cond.code ({ cls := "java/lang/Record", name := "<init>", desc := "()V" } : Jvm.MethodName) jdk_30_method_1_code (1 : Nat) (Option.none : Option Jvm.ClassFile.FieldType)).before a0 Z = true := hw _ (List.mem_of_getElem? (i := 11) rfl)
theorem ow12 {Z : State} {a0 : Array Value} (hw : ∀ d ∈ tables_1, d.before a0 Z = true) : (Jvm.Cond.methodLink "java/lang/Record" (1 : Nat) ({ cls := "java/lang/Object", name := "<init>", desc := "()V" } : Jvm.MethodName)).before a0 Z = true := hw _ (List.mem_of_getElem? (i := 12) rfl)
theorem ow13 {Z : State} {a0 : Array Value} (hw : ∀ d ∈ tables_1, d.before a0 Z = true) : (Jvm.Cond.instanceMethod ({ cls := "java/lang/Object", name := "<init>", desc := "()V" } : Jvm.MethodName)).before a0 Z = true := hw _ (List.mem_of_getElem? (i := 13) rfl)
theorem ow14 {Z : State} {a0 : Array Value} (hw : ∀ d ∈ tables_1, d.before a0 Z = true) : (Jvm.Cond.code ({ cls := "java/lang/Object", name := "<init>", desc := "()V" } : Jvm.MethodName) object_method_1_code (1 : Nat) (Option.none : Option Jvm.ClassFile.FieldType)).before a0 Z = true := hw _ (List.mem_of_getElem? (i := 14) rfl)
theorem ow15 {Z : State} {a0 : Array Value} (hw : ∀ d ∈ tables_1, d.before a0 Z = true) : (Jvm.Cond.methodLink "com/example/latmere/latmere/spatial/MapUnit" (7 : Nat) ({ cls := "java/lang/Double", name := "isFinite", desc := "(D)Z" } : Jvm.MethodName)).before a0 Z = true := hw _ (List.mem_of_getElem? (i := 15) rfl)
theorem ow16 {Z : State} {a0 : Array Value} (hw : ∀ d ∈ tables_1, d.before a0 Z = true) : (Jvm.Cond.static ({ cls := "java/lang/Double", name := "isFinite", desc := "(D)Z" } : Jvm.MethodName)).before a0 Z = true := hw _ (List.mem_of_getElem? (i := 16) rfl)
theorem ow17 {Z : State} {a0 : Array Value} (hw : ∀ d ∈ tables_1, d.before a0 Z = true) : (Jvm.Cond.initialized "java/lang/Double").before a0 Z = true := hw _ (List.mem_of_getElem? (i := 17) rfl)
theorem ow18 {Z : State} {a0 : Array Value} (hw : ∀ d ∈ tables_1, d.before a0 Z = true) : (Jvm.Cond.code ({ cls := "java/lang/Double", name := "isFinite", desc := "(D)Z" } : Jvm.MethodName) jdk_117_method_8_code (2 : Nat) (Option.some Jvm.ClassFile.FieldType.boolean)).before a0 Z = true := hw _ (List.mem_of_getElem? (i := 18) rfl)
theorem ow19 {Z : State} {a0 : Array Value} (hw : ∀ d ∈ tables_1, d.before a0 Z = true) : (Jvm.Cond.methodLink "java/lang/Double" (38 : Nat) ({ cls := "java/lang/Math", name := "abs", desc := "(D)D" } : Jvm.MethodName)).before a0 Z = true := hw _ (List.mem_of_getElem? (i := 19) rfl)
theorem ow20 {Z : State} {a0 : Array Value} (hw : ∀ d ∈ tables_1, d.before a0 Z = true) : (Jvm.Cond.static ({ cls := "java/lang/Math", name := "abs", desc := "(D)D" } : Jvm.MethodName)).before a0 Z = true := hw _ (List.mem_of_getElem? (i := 20) rfl)
theorem ow21 {Z : State} {a0 : Array Value} (hw : ∀ d ∈ tables_1, d.before a0 Z = true) : (Jvm.Cond.initialized "java/lang/Math").before a0 Z = true := hw _ (List.mem_of_getElem? (i := 21) rfl)
theorem ow22 {Z : State} {a0 : Array Value} (hw : ∀ d ∈ tables_1, d.before a0 Z = true) : (Jvm.Cond.code ({ cls := "java/lang/Math", name := "abs", desc := "(D)D" } : Jvm.MethodName) jdk_29_method_64_code (2 : Nat) (Option.some Jvm.ClassFile.FieldType.double)).before a0 Z = true := hw _ (List.mem_of_getElem? (i := 22) rfl)
theorem ow23 {Z : State} {a0 : Array Value} (hw : ∀ d ∈ tables_1, d.before a0 Z = true) : (Jvm.Cond.constantDouble "java/lang/Double" (111 : Nat) (9218868437227405311 : UInt64)).before a0 Z = true := hw _ (List.mem_of_getElem? (i := 23) rfl)
theorem ow24 {Z : State} {a0 : Array Value} (hw : ∀ d ∈ tables_1, d.before a0 Z = true) : (Jvm.Cond.fieldLink "com/example/latmere/latmere/spatial/MapUnit" (22 : Nat) "com/example/latmere/latmere/spatial/MapUnit" "angular" "Z").before a0 Z = true := hw _ (List.mem_of_getElem? (i := 24) rfl)
theorem ow25 {Z : State} {a0 : Array Value} (hw : ∀ d ∈ tables_1, d.before a0 Z = true) : (Jvm.Cond.laysFinal "com/example/latmere/latmere/spatial/MapUnit" "com/example/latmere/latmere/spatial/MapUnit" "angular" "Z").before a0 Z = true := hw _ (List.mem_of_getElem? (i := 25) rfl)
theorem ow26 {Z : State} {a0 : Array Value} (hw : ∀ d ∈ tables_1, d.before a0 Z = true) : (Jvm.Cond.fieldLink "com/example/latmere/latmere/spatial/MapUnit" (28 : Nat) "com/example/latmere/latmere/spatial/MapUnit" "size" "D").before a0 Z = true := hw _ (List.mem_of_getElem? (i := 26) rfl)
theorem ow27 {Z : State} {a0 : Array Value} (hw : ∀ d ∈ tables_1, d.before a0 Z = true) : (Jvm.Cond.laysFinal "com/example/latmere/latmere/spatial/MapUnit" "com/example/latmere/latmere/spatial/MapUnit" "size" "D").before a0 Z = true := hw _ (List.mem_of_getElem? (i := 27) rfl)
theorem ow28 {Z : State} {a0 : Array Value} (hw : ∀ d ∈ tables_1, d.before a0 Z = true) : (Jvm.Cond.methodLink "com/example/latmere/latmere/spatial/MapUnitMetresPinLaw" (13 : Nat) ({ cls := "com/example/latmere/latmere/spatial/MapUnit", name := "metres", desc := "(D)D" } : Jvm.MethodName)).before a0 Z = true := hw _ (List.mem_of_getElem? (i := 28) rfl)
theorem ow29 {Z : State} {a0 : Array Value} (hw : ∀ d ∈ tables_1, d.before a0 Z = true) : (Jvm.Cond.declares ({ cls := "com/example/latmere/latmere/spatial/MapUnit", name := "metres", desc := "(D)D" } : Jvm.MethodName)).before a0 Z = true := hw _ (List.mem_of_getElem? (i := 29) rfl)
theorem ow30 {Z : State} {a0 : Array Value} (hw : ∀ d ∈ tables_1, d.before a0 Z = true) : (Jvm.Cond.instanceMethod ({ cls := "com/example/latmere/latmere/spatial/MapUnit", name := "metres", desc := "(D)D" } : Jvm.MethodName)).before a0 Z = true := hw _ (List.mem_of_getElem? (i := 30) rfl)
theorem ow31 {Z : State} {a0 : Array Value} (hw : ∀ d ∈ tables_1, d.before a0 Z = true) : (Jvm.Cond.selects "com/example/latmere/latmere/spatial/MapUnit" ({ cls := "com/example/latmere/latmere/spatial/MapUnit", name := "metres", desc := "(D)D" } : Jvm.MethodName) ({ cls := "com/example/latmere/latmere/spatial/MapUnit", name := "metres", desc := "(D)D" } : Jvm.MethodName)).before a0 Z = true := hw _ (List.mem_of_getElem? (i := 31) rfl)
theorem ow32 {Z : State} {a0 : Array Value} (hw : ∀ d ∈ tables_1, d.before a0 Z = true) : (Jvm.Cond.code ({ cls := "com/example/latmere/latmere/spatial/MapUnit", name := "metres", desc := "(D)D" } : Jvm.MethodName) prog_36_method_2_code (3 : Nat) (Option.some Jvm.ClassFile.FieldType.double)).before a0 Z = true := hw _ (List.mem_of_getElem? (i := 32) rfl)
open Jvm.Free.Fl in
theorem own_dc0 : FP.dconst0 = FP.l2d (0 : Int64) := by rw [l2d_zero]; rfl
theorem own_b0 : B53 (0 : Int64) := ⟨by decide, by decide⟩
theorem own_bs {s : Int64} (h0 : (0 : Int64) < s) (h1 : s.toInt ≤ 1048576) : B53 s := by
  rw [Int64.lt_iff_toInt_lt] at h0
  have e0 : (0 : Int64).toInt = 0 := by decide
  exact ⟨by omega, by omega⟩
theorem own_nn {s : Int64} (h0 : (0 : Int64) < s) : ¬ s < 0 := by rw [Int64.lt_iff_toInt_lt] at *; omega
open Jvm.Free.Fl in
theorem own_fin {s : Int64} (h0 : (0 : Int64) < s) : ¬ (0 : Int32) < cmpValue (FP.dcmp (FP.l2d s) (9218868437227405311 : UInt64)) .g := by
  have h := (le_max_iff (l2d_fin s).noNaN).mpr (l2d_fin s)
  rw [abs_w (own_nn h0)] at h
  rcases relLe_iff.mp h with q | q <;> (rw [show FP.dcmp (FP.l2d s) (9218868437227405311 : UInt64) = _ from q]; decide)
theorem own_mul {s : Int64} (d : Int32) (h0 : (0 : Int64) < s) (h1 : s.toInt ≤ 1048576) : FP.dmul (FP.l2d s) (FP.l2d (d.toInt64)) = FP.l2d (s * d.toInt64) := by
  have e := c_i2l d
  have r := rng32 d
  rw [Int64.lt_iff_toInt_lt] at h0
  have e0 : (0 : Int64).toInt = 0 := by decide
  refine dmul_k (A := 1048576) (B := 2147483648) (by omega) (by omega) (by omega) (by omega) (by decide) (by decide) (by decide) (fun q => ?_) (fun q => ?_)
  · have := q.1; subst this; omega
  · have := q.2; rw [Int64.lt_iff_toInt_lt] at this; omega
theorem own_size (z : Int32) : (0 : Int64) < ((z &&& (1048575 : Int32)).toInt64) + (1 : Int64) ∧ (((z &&& (1048575 : Int32)).toInt64) + (1 : Int64)).toInt ≤ 1048576 := by
  have h := c_and z 1048575 (by decide)
  have e := c_i2l (z &&& 1048575)
  have a := c_ladd ((z &&& 1048575).toInt64) 1
  have e1 : (1 : Int64).toInt = 1 := by decide
  have e2 : (1048575 : Int32).toInt = 1048575 := by decide
  have r := rng64 ((z &&& 1048575).toInt64 + 1)
  rw [Int64.lt_iff_toInt_lt]
  have e0 : (0 : Int64).toInt = 0 := by decide
  rw [e0]
  constructor <;> omega
theorem d2_0 : decode jdk_30_method_1_code 0 = .ok (.aload_n 0, 1) := by decide +kernel
theorem d2_1 : decode jdk_30_method_1_code 1 = .ok (.invokespecial 1, 3) := by decide +kernel
theorem d2_4 : decode jdk_30_method_1_code 4 = .ok (.return_, 1) := by decide +kernel
theorem pn_2 : plainName "java/lang/Record" = true := by first | (simp [plainName, overriddenIn]; done) | decide +kernel
theorem ef_rmR (m : MethodId) (a : Addr) : entryFrame m #[(.ref a)] 1 = mkF m 0 #[.val (.ref a)] [] := by first | (simp [entryFrame, mkF, argsToLocals, Value.category]; done) | rfl | (rcases ref_cases hrf with rfl | ⟨q, rfl⟩ <;> rfl)
def Q_rmR (Z : State) (a : Addr)  (h0 : Heap) (n0 : Nat) (v : Option Value) (h : Heap) (L : List Loc) : Prop := v = none ∧ Fr n0 L ∧ h = h0
set_option maxRecDepth 65536 in
set_option maxHeartbeats 40000000 in
theorem rmR (l : Launch) (Z : State) (a0 : Array Value) (hw : ∀ d ∈ tables_1, d.before a0 Z = true) (ws : List Jvm.Cond) (a : Addr)  (h0 : Heap) (n0 : Nat) (O0 : Old Z n0 h0) :
    MetFree l oM0 (head1 (Jvm.Cond.code oM0 jdk_30_method_1_code 1 none :: ws) ({ frames := 1, cells := 0, slots := 0, locals := 12 } : Room)) (fun aq_ U => aq_ = #[(.ref a)] ∧ Z.Warmed39 U.vm ∧ U.heap = h0) (fun _ _ _ _ _ => True) (fun _ U o U' => ∃ v L, o = .returned v ∧ Q_rmR Z a h0 n0 v U'.heap L ∧ FrameEnd U o U' L ({ frames := 1, cells := 0, slots := 0, locals := 12 } : Room).cells ({ frames := 1, cells := 0, slots := 0, locals := 12 } : Room).slots) := by
  refine MetFree.of_bodySF (plainFor_of_name pn_2) hisR ?_
  intro p e s m args below meth c s₁ Bd hml0 hP hK
  obtain ⟨rfl, hZ, hh⟩ := hP
  have hx := Bd.exec
  have hby := Bd.bytes
  have hml : c.maxLocals = 1 := hml0
  have hown : s.vm.findClass "java/lang/Record" = some m.cls := findClass_of_methodNamed Bd.named
  have hnm := (name_of_methodNamed Bd.named Bd.method).1
  have X0 : Stand p l e ({ frames := 1, cells := 0, slots := 0, locals := 12 } : Room) s m #[(.ref a)] below meth c s₁ [] 0 0 := Stand.of_body Bd
  have e0 : s₁.heap = h0 := by rw [← hh, Bd.state]; rfl
  have N0 := Fr.nil n0
  show own_Ends p.tables e below (own_P s (Q_rmR Z a h0 n0) ({ frames := 1, cells := 0, slots := 0, locals := 12 } : Room).cells ({ frames := 1, cells := 0, slots := 0, locals := 12 } : Room).slots) _
  refine own_cast (ef_rmR m a) ?_
  show own_Ends _ _ _ _ (s₁.setTop (mkF m 0 #[.val (.ref a)] []))
  refine own_to (fun _ kont => XS.aloadN X0.here hx rfl (hb hby d2_0) rfl rfl kont) ?_
  show own_Ends _ _ _ _ (s₁.setTop (mkF m 1 #[.val (.ref a)] [(.ref a)]))
  obtain ⟨T1, X1, e1, st1⟩ := initO X0 hx hZ hown (ow12 hw) (ow13 hw) (ow14 hw) e0 (g := (mkF m 1 #[.val (.ref a)] [(.ref a)])) rfl (by rw [hml]; rfl) rfl (hb hby d2_1) (by decide) (W := 0) (by show 2 * 0 + _ ≤ _; exact Nat.le_of_eq rfl) (by decide)
  refine own_to st1 ?_
  show own_Ends _ _ _ _ (T1.setTop (mkF m 4 #[.val (.ref a)] []))
  refine own_leave X1 (v := none) (fun _ => rfl) ?_ (by decide) (by decide) (fun fs hr => X1.returnOut hx Bd.returns (hb hby d2_4) hr)
  show Q_rmR Z a h0 n0 _ T1.heap _
  rw [e1]
  exact ⟨rfl, N0, rfl⟩
theorem d4_0 : decode jdk_117_method_8_code 0 = .ok (.dload_n 0, 1) := by decide +kernel
theorem d4_1 : decode jdk_117_method_8_code 1 = .ok (.invokestatic 38, 3) := by decide +kernel
theorem d4_4 : decode jdk_117_method_8_code 4 = .ok (.ldc2_w 111, 3) := by decide +kernel
theorem d4_7 : decode jdk_117_method_8_code 7 = .ok (.dcmp .g, 1) := by decide +kernel
theorem d4_8 : decode jdk_117_method_8_code 8 = .ok (.ifCond .gt 7, 3) := by decide +kernel
theorem d4_11 : decode jdk_117_method_8_code 11 = .ok (.iconst 1, 1) := by decide +kernel
theorem d4_12 : decode jdk_117_method_8_code 12 = .ok (.goto 4, 3) := by decide +kernel
theorem d4_16 : decode jdk_117_method_8_code 16 = .ok (.ireturn, 1) := by decide +kernel
theorem pn_4 : plainName "java/lang/Double" = true := by first | (simp [plainName, overriddenIn]; done) | decide +kernel
theorem pd_0 : parseMethodDescriptor "(D)D" = some ⟨[.double], some .double⟩ := by decide +kernel
theorem ef_rmF (m : MethodId)  (s_ : Int64) : entryFrame m #[(.double (FP.l2d s_))] 2 = mkF m 0 #[.val (.double (FP.l2d s_)), .second] [] := by first | (simp [entryFrame, mkF, argsToLocals, Value.category]; done) | rfl | (rcases ref_cases hrf with rfl | ⟨q, rfl⟩ <;> rfl)
def Q_rmF (Z : State)  (s_ : Int64) (h0 : Heap) (n0 : Nat) (v : Option Value) (h : Heap) (L : List Loc) : Prop := v = some (.int (1 : Int32)) ∧ Fr n0 L ∧ h = h0
set_option maxRecDepth 65536 in
set_option maxHeartbeats 40000000 in
theorem rmF (l : Launch) (Z : State) (a0 : Array Value) (hw : ∀ d ∈ tables_1, d.before a0 Z = true) (ws : List Jvm.Cond)  (s_ : Int64) (h0 : Heap) (n0 : Nat) (O0 : Old Z n0 h0) (hs0 : (0 : Int64) < s_) (hs1 : s_.toInt ≤ 1048576) :
    MetFree l oM1 (head1 (Jvm.Cond.code oM1 jdk_117_method_8_code 2 (some .boolean) :: ws) ({ frames := 1, cells := 0, slots := 0, locals := 14 } : Room)) (fun aq_ U => aq_ = #[(.double (FP.l2d s_))] ∧ Z.Warmed39 U.vm ∧ U.heap = h0) (fun _ _ _ _ _ => True) (fun _ U o U' => ∃ v L, o = .returned v ∧ Q_rmF Z s_ h0 n0 v U'.heap L ∧ FrameEnd U o U' L ({ frames := 1, cells := 0, slots := 0, locals := 14 } : Room).cells ({ frames := 1, cells := 0, slots := 0, locals := 14 } : Room).slots) := by
  refine MetFree.of_bodySF (plainFor_of_name pn_4) hisR ?_
  intro p e s m args below meth c s₁ Bd hml0 hP hK
  obtain ⟨rfl, hZ, hh⟩ := hP
  have hx := Bd.exec
  have hby := Bd.bytes
  have hml : c.maxLocals = 2 := hml0
  have hown : s.vm.findClass "java/lang/Double" = some m.cls := findClass_of_methodNamed Bd.named
  have hnm := (name_of_methodNamed Bd.named Bd.method).1
  have X0 : Stand p l e ({ frames := 1, cells := 0, slots := 0, locals := 14 } : Room) s m #[(.double (FP.l2d s_))] below meth c s₁ [] 0 0 := Stand.of_body Bd
  have e0 : s₁.heap = h0 := by rw [← hh, Bd.state]; rfl
  have N0 := Fr.nil n0
  show own_Ends p.tables e below (own_P s (Q_rmF Z s_ h0 n0) ({ frames := 1, cells := 0, slots := 0, locals := 14 } : Room).cells ({ frames := 1, cells := 0, slots := 0, locals := 14 } : Room).slots) _
  refine own_cast (ef_rmF m s_) ?_
  show own_Ends _ _ _ _ (s₁.setTop (mkF m 0 #[.val (.double (FP.l2d s_)), .second] []))
  refine own_to (fun _ kont => XS.dloadN X0.here hx rfl (hb hby d4_0) rfl kont) ?_
  show own_Ends _ _ _ _ (s₁.setTop (mkF m 1 #[.val (.double (FP.l2d s_)), .second] [(.double (FP.l2d s_))]))
  obtain ⟨T1, X1, e1, st1⟩ := natS X0 hx hZ (y := oM2) (F := fun a' => a' = #[.double (FP.l2d s_)] ∧ Jvm.Free.Fl.NoNaN64 (FP.l2d s_)) (W := 0) hown (ow19 hw) (ow20 hw) (ow21 hw) (ow22 hw) (by decide) e0 (fun hcode => Jvm.Free.Fl.Abs.absD_pays (FP.l2d s_) hcode (by decide) (by decide)) (g := (mkF m 1 #[.val (.double (FP.l2d s_)), .second] [(.double (FP.l2d s_))])) rfl (by rw [hml]; rfl) (argsL := [(.double (FP.l2d s_))]) (rest := []) (lenOf pd_0 rfl) rfl (by show 2 * 0 + _ ≤ _; exact Nat.le_of_eq rfl) (hb hby d4_1) (by decide) (by decide) ⟨rfl, (nn_w rfl)⟩ (congrArg Value.double (abs_w (own_nn hs0)))
  refine own_to st1 ?_
  show own_Ends _ _ _ _ (T1.setTop (mkF m 4 #[.val (.double (FP.l2d s_)), .second] [(.double (FP.l2d s_))]))
  refine own_to (X1.ldc2DoubleC hx hown (mvT hZ (ow23 hw)) (g := (mkF m 4 #[.val (.double (FP.l2d s_)), .second] [(.double (FP.l2d s_))])) rfl (hb hby d4_4)) ?_
  show own_Ends _ _ _ _ (T1.setTop (mkF m 7 #[.val (.double (FP.l2d s_)), .second] [(.double (9218868437227405311 : UInt64)), (.double (FP.l2d s_))]))
  refine own_to (fun _ kont => XS.dcmpS X1.here hx rfl (v := (cmpValue (FP.dcmp (FP.l2d s_) (9218868437227405311 : UInt64)) .g)) (hb hby d4_7) rfl rfl kont) ?_
  show own_Ends _ _ _ _ (T1.setTop (mkF m 8 #[.val (.double (FP.l2d s_)), .second] [(.int (cmpValue (FP.dcmp (FP.l2d s_) (9218868437227405311 : UInt64)) .g))]))
  refine own_to (fun _ kont => XS.ifNo X1.here hx rfl (hb hby d4_8) rfl ((if0 _ _).trans (flt (own_fin hs0)).2.2.1) kont) ?_
  show own_Ends _ _ _ _ (T1.setTop (mkF m 11 #[.val (.double (FP.l2d s_)), .second] []))
  refine own_to (fun _ kont => XS.iconst X1.here hx rfl (hb hby d4_11) kont) ?_
  show own_Ends _ _ _ _ (T1.setTop (mkF m 12 #[.val (.double (FP.l2d s_)), .second] [(.int 1)]))
  refine own_to (fun _ kont => XS.goto X1.here hx rfl (pc0 := 12) (pc' := 16) rfl (hb hby d4_12) (by decide) (by decide) kont) ?_
  show own_Ends _ _ _ _ (T1.setTop (mkF m 16 #[.val (.double (FP.l2d s_)), .second] [(.int 1)]))
  refine own_leave X1 (v := some (.int (1 : Int32))) (fun h => by rw [Bd.returns] at h; cases h) ?_ (by decide) (by decide) (fun fs hr => retN X1 hx (t := .boolean) Bd.returns (by simp) (hb hby d4_16) hr)
  show Q_rmF Z s_ h0 n0 _ T1.heap _
  rw [e1]
  exact ⟨rfl, N0, rfl⟩
theorem d1_0 : decode prog_36_method_1_code 0 = .ok (.aload_n 0, 1) := by decide +kernel
theorem d1_1 : decode prog_36_method_1_code 1 = .ok (.invokespecial 1, 3) := by decide +kernel
theorem d1_4 : decode prog_36_method_1_code 4 = .ok (.dload_n 2, 1) := by decide +kernel
theorem d1_5 : decode prog_36_method_1_code 5 = .ok (.dconst 0, 1) := by decide +kernel
theorem d1_6 : decode prog_36_method_1_code 6 = .ok (.dcmp .l, 1) := by decide +kernel
theorem d1_7 : decode prog_36_method_1_code 7 = .ok (.ifCond .le 10, 3) := by decide +kernel
theorem d1_10 : decode prog_36_method_1_code 10 = .ok (.dload_n 2, 1) := by decide +kernel
theorem d1_11 : decode prog_36_method_1_code 11 = .ok (.invokestatic 7, 3) := by decide +kernel
theorem d1_14 : decode prog_36_method_1_code 14 = .ok (.ifCond .ne 17, 3) := by decide +kernel
theorem d1_31 : decode prog_36_method_1_code 31 = .ok (.aload_n 0, 1) := by decide +kernel
theorem d1_32 : decode prog_36_method_1_code 32 = .ok (.iload_n 1, 1) := by decide +kernel
theorem d1_33 : decode prog_36_method_1_code 33 = .ok (.putfield 22, 3) := by decide +kernel
theorem d1_36 : decode prog_36_method_1_code 36 = .ok (.aload_n 0, 1) := by decide +kernel
theorem d1_37 : decode prog_36_method_1_code 37 = .ok (.dload_n 2, 1) := by decide +kernel
theorem d1_38 : decode prog_36_method_1_code 38 = .ok (.putfield 28, 3) := by decide +kernel
theorem d1_41 : decode prog_36_method_1_code 41 = .ok (.return_, 1) := by decide +kernel
theorem pn_1 : plainName "com/example/latmere/latmere/spatial/MapUnit" = true := by first | (simp [plainName, overriddenIn]; done) | decide +kernel
theorem pd_1 : parseMethodDescriptor "()V" = some ⟨[], none⟩ := by decide +kernel
theorem pd_2 : parseMethodDescriptor "(D)Z" = some ⟨[.double], some .boolean⟩ := by decide +kernel
theorem ef_rmI (m : MethodId) (a : Addr) (t : Int32) (s_ : Int64) : entryFrame m #[(.ref a), (.int t), (.double (FP.l2d s_))] 4 = mkF m 0 #[.val (.ref a), .val (.int t), .val (.double (FP.l2d s_)), .second] [] := by first | (simp [entryFrame, mkF, argsToLocals, Value.category]; done) | rfl | (rcases ref_cases hrf with rfl | ⟨q, rfl⟩ <;> rfl)
def Q_rmI (Z : State) (a : Addr) (t : Int32) (s_ : Int64) (h0 : Heap) (n0 : Nat) (v : Option Value) (h : Heap) (L : List Loc) : Prop := v = none ∧ Fr n0 L ∧ Old Z n0 h ∧ Keep h0 h [a] ∧ Exa Z h a "com/example/latmere/latmere/spatial/MapUnit" ∧ Fld Z h a "com/example/latmere/latmere/spatial/MapUnit" "angular" "Z" (.int (nar .boolean t)) ∧ Fld Z h a "com/example/latmere/latmere/spatial/MapUnit" "size" "D" (.double (FP.l2d s_))
set_option maxRecDepth 65536 in
set_option maxHeartbeats 40000000 in
theorem rmI (l : Launch) (Z : State) (a0 : Array Value) (hw : ∀ d ∈ tables_1, d.before a0 Z = true) (ws : List Jvm.Cond) (a : Addr) (t : Int32) (s_ : Int64) (h0 : Heap) (n0 : Nat) (O0 : Old Z n0 h0) (g_a : n0 ≤ a) (E_a : Exa Z h0 a "com/example/latmere/latmere/spatial/MapUnit") (F_ang : Fld Z h0 a "com/example/latmere/latmere/spatial/MapUnit" "angular" "Z" (.int (0 : Int32))) (F_size : Fld Z h0 a "com/example/latmere/latmere/spatial/MapUnit" "size" "D" (.double (0 : UInt64))) (hs0 : (0 : Int64) < s_) (hs1 : s_.toInt ≤ 1048576) :
    MetFree l oM3 (head1 (Jvm.Cond.code oM3 prog_36_method_1_code 4 none :: ws) ({ frames := 2, cells := 0, slots := 0, locals := 40 } : Room)) (fun aq_ U => aq_ = #[(.ref a), (.int t), (.double (FP.l2d s_))] ∧ Z.Warmed39 U.vm ∧ U.heap = h0) (fun _ _ _ _ _ => True) (fun _ U o U' => ∃ v L, o = .returned v ∧ Q_rmI Z a t s_ h0 n0 v U'.heap L ∧ FrameEnd U o U' L ({ frames := 2, cells := 0, slots := 0, locals := 40 } : Room).cells ({ frames := 2, cells := 0, slots := 0, locals := 40 } : Room).slots) := by
  refine MetFree.of_bodySF (plainFor_of_name pn_1) hisR ?_
  intro p e s m args below meth c s₁ Bd hml0 hP hK
  obtain ⟨rfl, hZ, hh⟩ := hP
  have hx := Bd.exec
  have hby := Bd.bytes
  have hml : c.maxLocals = 4 := hml0
  have hown : s.vm.findClass "com/example/latmere/latmere/spatial/MapUnit" = some m.cls := findClass_of_methodNamed Bd.named
  have hnm := (name_of_methodNamed Bd.named Bd.method).1
  have X0 : Stand p l e ({ frames := 2, cells := 0, slots := 0, locals := 40 } : Room) s m #[(.ref a), (.int t), (.double (FP.l2d s_))] below meth c s₁ [] 0 0 := Stand.of_body Bd
  have e0 : s₁.heap = h0 := by rw [← hh, Bd.state]; rfl
  have N0 := Fr.nil n0
  show own_Ends p.tables e below (own_P s (Q_rmI Z a t s_ h0 n0) ({ frames := 2, cells := 0, slots := 0, locals := 40 } : Room).cells ({ frames := 2, cells := 0, slots := 0, locals := 40 } : Room).slots) _
  refine own_cast (ef_rmI m a t s_) ?_
  have K0 := Keep.refl h0 [a]
  show own_Ends _ _ _ _ (s₁.setTop (mkF m 0 #[.val (.ref a), .val (.int t), .val (.double (FP.l2d s_)), .second] []))
  refine own_to (fun _ kont => XS.aloadN X0.here hx rfl (hb hby d1_0) rfl rfl kont) ?_
  show own_Ends _ _ _ _ (s₁.setTop (mkF m 1 #[.val (.ref a), .val (.int t), .val (.double (FP.l2d s_)), .second] [(.ref a)]))
  obtain ⟨_, _, ⟨T1, L1, k1, n1⟩, -, X1, ⟨Lc1, hQ1, l1, y1, z1⟩, st1⟩ := X0.specialBack hx (y := oM0) rfl hown (mvT hZ (ow7 hw)) (mvT hZ (ow8 hw)) (mvT hZ (ow11 hw)) (by decide) (backOf (W := 0) (rmR l Z a0 hw [] a  h0 n0 O0 ) hZ (ow11 hw) (ow10 hw) (by decide) (by decide)) (g := (mkF m 1 #[.val (.ref a), .val (.int t), .val (.double (FP.l2d s_)), .second] [(.ref a)])) rfl (by rw [hml]; rfl) (Steps.refl _) (a := a) (argsL := []) (rest := []) (lenOf pd_1 rfl) rfl (by show 2 * 0 + _ ≤ _; exact Nat.le_of_eq rfl) (hb hby d1_1) (fun _ _ => ⟨rfl, e0, (own_le rfl), (own_le rfl)⟩)
  dsimp only [Pt.U, Pt.locs, Pt.cells, Pt.slots] at X1 l1 y1 z1 st1 hQ1
  subst l1 y1 z1
  obtain ⟨rfl, N1q, E1⟩ := hQ1
  have N1 := Fr.app N0 N1q
  refine own_tr st1 ?_
  show own_Ends _ _ _ _ (T1.setTop (mkF m 4 #[.val (.ref a), .val (.int t), .val (.double (FP.l2d s_)), .second] []))
  refine own_to (fun _ kont => XS.dloadN X1.here hx rfl (hb hby d1_4) rfl kont) ?_
  show own_Ends _ _ _ _ (T1.setTop (mkF m 5 #[.val (.ref a), .val (.int t), .val (.double (FP.l2d s_)), .second] [(.double (FP.l2d s_))]))
  refine own_to (fun _ kont => XS.dconst0 X1.here hx rfl (v := (FP.l2d (0 : Int64))) (hb hby d1_5) own_dc0 kont) ?_
  show own_Ends _ _ _ _ (T1.setTop (mkF m 6 #[.val (.ref a), .val (.int t), .val (.double (FP.l2d s_)), .second] [(.double (FP.l2d (0 : Int64))), (.double (FP.l2d s_))]))
  refine own_to (fun _ kont => XS.dcmpS X1.here hx rfl (v := (lcmpW s_ (0 : Int64))) (hb hby d1_6) rfl (dcmpV_w (own_bs hs0 hs1) own_b0 .l) kont) ?_
  show own_Ends _ _ _ _ (T1.setTop (mkF m 7 #[.val (.ref a), .val (.int t), .val (.double (FP.l2d s_)), .second] [(.int (lcmpW s_ (0 : Int64)))]))
  refine own_to (fun _ kont => XS.ifNo X1.here hx rfl (hb hby d1_7) rfl ((if0 _ _).trans (tlt ((lw_gt _ _).mpr hs0)).2.2.2) kont) ?_
  show own_Ends _ _ _ _ (T1.setTop (mkF m 10 #[.val (.ref a), .val (.int t), .val (.double (FP.l2d s_)), .second] []))
  refine own_to (fun _ kont => XS.dloadN X1.here hx rfl (hb hby d1_10) rfl kont) ?_
  show own_Ends _ _ _ _ (T1.setTop (mkF m 11 #[.val (.ref a), .val (.int t), .val (.double (FP.l2d s_)), .second] [(.double (FP.l2d s_))]))
  obtain ⟨_, _, ⟨T2, L2, k2, n2⟩, -, X2, ⟨Lc2, hQ2, l2, y2, z2⟩, st2⟩ := Jvm.LawKit.callS X1 hx (y := oM1) hown (mvT hZ (ow15 hw)) (mvT hZ (ow16 hw)) (mvT hZ (ow17 hw)) (mvT hZ (ow18 hw)) (by decide) (backOf (W := 0) (rmF l Z a0 hw []  s_ h0 n0 O0 hs0 hs1) hZ (ow18 hw) (ow17 hw) (by decide) (by decide)) (g := (mkF m 11 #[.val (.ref a), .val (.int t), .val (.double (FP.l2d s_)), .second] [(.double (FP.l2d s_))])) rfl (by rw [hml]; rfl) (argsL := [(.double (FP.l2d s_))]) (rest := []) (lenOf pd_2 rfl) rfl (by show 2 * 0 + _ ≤ _; exact Nat.le_of_eq rfl) (hb hby d1_11) (fun _ _ => ⟨rfl, E1, (own_le rfl), (own_le rfl)⟩)
  dsimp only [Pt.U, Pt.locs, Pt.cells, Pt.slots] at X2 l2 y2 z2 st2 hQ2
  subst l2 y2 z2
  obtain ⟨rfl, N2q, E2⟩ := hQ2
  have N2 := Fr.app N1 N2q
  refine own_to st2 ?_
  show own_Ends _ _ _ _ (T2.setTop (mkF m 14 #[.val (.ref a), .val (.int t), .val (.double (FP.l2d s_)), .second] [(.int 1)]))
  refine own_to (fun _ kont => XS.ifYes X2.here hx rfl (pc0 := 14) (pc' := 31) rfl (hb hby d1_14) rfl ((if0 _ _).trans (feq (by decide)).2) (by decide) (by decide) kont) ?_
  show own_Ends _ _ _ _ (T2.setTop (mkF m 31 #[.val (.ref a), .val (.int t), .val (.double (FP.l2d s_)), .second] []))
  refine own_to (fun _ kont => XS.aloadN X2.here hx rfl (hb hby d1_31) rfl rfl kont) ?_
  show own_Ends _ _ _ _ (T2.setTop (mkF m 32 #[.val (.ref a), .val (.int t), .val (.double (FP.l2d s_)), .second] [(.ref a)]))
  refine own_to (fun _ kont => XS.iloadN X2.here hx rfl (hb hby d1_32) rfl kont) ?_
  show own_Ends _ _ _ _ (T2.setTop (mkF m 33 #[.val (.ref a), .val (.int t), .val (.double (FP.l2d s_)), .second] [(.int t), (.ref a)]))
  obtain ⟨T3, h3, X3, e3, W3, st3⟩ := putFN X2 hx hZ hown (ow24 hw) Via.refl E2 F_ang E_a (Or.inr ⟨(ow25 hw), rfl, hnm⟩) (ow2 hw) (ty := .boolean) (v' := (.int (nar .boolean t))) (by decide) rfl (fits_nar_bool _) (g := (mkF m 33 #[.val (.ref a), .val (.int t), .val (.double (FP.l2d s_)), .second] [(.int t), (.ref a)])) rfl rfl (hb hby d1_33)
  refine own_to st3 ?_
  have Fw3 : Fld Z h3 a "com/example/latmere/latmere/spatial/MapUnit" "angular" "Z" (.int (nar .boolean t)) := F_ang.same W3
  have O3 := O0.wr W3 g_a
  have N3 := Fr.snoc X3 N2 g_a
  have K3 := K0.wr W3 (Or.inl (List.mem_of_getElem? (i := 0) rfl))
  show own_Ends _ _ _ _ (T3.setTop (mkF m 36 #[.val (.ref a), .val (.int t), .val (.double (FP.l2d s_)), .second] []))
  refine own_to (fun _ kont => XS.aloadN X3.here hx rfl (hb hby d1_36) rfl rfl kont) ?_
  show own_Ends _ _ _ _ (T3.setTop (mkF m 37 #[.val (.ref a), .val (.int t), .val (.double (FP.l2d s_)), .second] [(.ref a)]))
  refine own_to (fun _ kont => XS.dloadN X3.here hx rfl (hb hby d1_37) rfl kont) ?_
  show own_Ends _ _ _ _ (T3.setTop (mkF m 38 #[.val (.ref a), .val (.int t), .val (.double (FP.l2d s_)), .second] [(.double (FP.l2d s_)), (.ref a)]))
  obtain ⟨T4, h4, X4, e4, W4, st4⟩ := putF X3 hx hZ hown (host := "") (Or.inl (ow26 hw)) Via.refl e3 (F_size.other W3 (Or.inr (slot_ne (Or.inr (ow27 hw)) (Or.inr (ow25 hw)) (by decide) (t := .double) (t' := .boolean) (by decide) (by decide)))) (E_a.wr W3) (Or.inr ⟨(ow27 hw), rfl, hnm⟩) (ow2 hw) (ty := .double) (by decide) rfl rfl (g := (mkF m 38 #[.val (.ref a), .val (.int t), .val (.double (FP.l2d s_)), .second] [(.double (FP.l2d s_)), (.ref a)])) rfl rfl (hb hby d1_38)
  refine own_to st4 ?_
  have Fw4 : Fld Z h4 a "com/example/latmere/latmere/spatial/MapUnit" "size" "D" (.double (FP.l2d s_)) := (F_size.other W3 (Or.inr (slot_ne (Or.inr (ow27 hw)) (Or.inr (ow25 hw)) (by decide) (t := .double) (t' := .boolean) (by decide) (by decide)))).same W4
  have O4 := O3.wr W4 g_a
  have N4 := Fr.snoc X4 N3 g_a
  have K4 := K3.wr W4 (Or.inl (List.mem_of_getElem? (i := 0) rfl))
  show own_Ends _ _ _ _ (T4.setTop (mkF m 41 #[.val (.ref a), .val (.int t), .val (.double (FP.l2d s_)), .second] []))
  refine own_leave X4 (v := none) (fun _ => rfl) ?_ (by decide) (by decide) (fun fs hr => X4.returnOut hx Bd.returns (hb hby d1_41) hr)
  show Q_rmI Z a t s_ h0 n0 _ T4.heap _
  rw [e4]
  exact ⟨rfl, N4, O4, K4, ((E_a.wr W3).wr W4), (Fw3.other W4 (Or.inr (slot_ne (Or.inr (ow25 hw)) (Or.inr (ow27 hw)) (by decide) (t := .boolean) (t' := .double) (by decide) (by decide)))), Fw4⟩
theorem d6_0 : decode prog_36_method_2_code 0 = .ok (.aload_n 0, 1) := by decide +kernel
theorem d6_1 : decode prog_36_method_2_code 1 = .ok (.getfield 22, 3) := by decide +kernel
theorem d6_4 : decode prog_36_method_2_code 4 = .ok (.ifCond .eq 12, 3) := by decide +kernel
theorem d6_16 : decode prog_36_method_2_code 16 = .ok (.aload_n 0, 1) := by decide +kernel
theorem d6_17 : decode prog_36_method_2_code 17 = .ok (.getfield 28, 3) := by decide +kernel
theorem d6_20 : decode prog_36_method_2_code 20 = .ok (.dreturn, 1) := by decide +kernel
theorem pn_6 : plainName "com/example/latmere/latmere/spatial/MapUnit" = true := by first | (simp [plainName, overriddenIn]; done) | decide +kernel
theorem ef_rmM0 (m : MethodId) (a : Addr) (s_ : Int64) (d_ : Int32) : entryFrame m #[(.ref a), (.double (FP.l2d (d_.toInt64)))] 3 = mkF m 0 #[.val (.ref a), .val (.double (FP.l2d (d_.toInt64))), .second] [] := by first | (simp [entryFrame, mkF, argsToLocals, Value.category]; done) | rfl | (rcases ref_cases hrf with rfl | ⟨q, rfl⟩ <;> rfl)
def Q_rmM0 (Z : State) (a : Addr) (s_ : Int64) (d_ : Int32) (h0 : Heap) (n0 : Nat) (v : Option Value) (h : Heap) (L : List Loc) : Prop := v = some (.double (FP.l2d s_)) ∧ Fr n0 L ∧ h = h0
set_option maxRecDepth 65536 in
set_option maxHeartbeats 40000000 in
theorem rmM0 (l : Launch) (Z : State) (a0 : Array Value) (hw : ∀ d ∈ tables_1, d.before a0 Z = true) (ws : List Jvm.Cond) (a : Addr) (s_ : Int64) (d_ : Int32) (h0 : Heap) (n0 : Nat) (O0 : Old Z n0 h0) (F_ang : Fld Z h0 a "com/example/latmere/latmere/spatial/MapUnit" "angular" "Z" (.int (0 : Int32))) (F_size : Fld Z h0 a "com/example/latmere/latmere/spatial/MapUnit" "size" "D" (.double (FP.l2d s_))) (hs0 : (0 : Int64) < s_) (hs1 : s_.toInt ≤ 1048576) :
    MetFree l oM4 (head1 (Jvm.Cond.code oM4 prog_36_method_2_code 3 (some .double) :: ws) ({ frames := 0, cells := 0, slots := 0, locals := 0 } : Room)) (fun aq_ U => aq_ = #[(.ref a), (.double (FP.l2d (d_.toInt64)))] ∧ Z.Warmed39 U.vm ∧ U.heap = h0) (fun _ _ _ _ _ => True) (fun _ U o U' => ∃ v L, o = .returned v ∧ Q_rmM0 Z a s_ d_ h0 n0 v U'.heap L ∧ FrameEnd U o U' L ({ frames := 0, cells := 0, slots := 0, locals := 0 } : Room).cells ({ frames := 0, cells := 0, slots := 0, locals := 0 } : Room).slots) := by
  refine MetFree.of_bodySF (plainFor_of_name pn_6) hisR ?_
  intro p e s m args below meth c s₁ Bd hml0 hP hK
  obtain ⟨rfl, hZ, hh⟩ := hP
  have hx := Bd.exec
  have hby := Bd.bytes
  have hml : c.maxLocals = 3 := hml0
  have hown : s.vm.findClass "com/example/latmere/latmere/spatial/MapUnit" = some m.cls := findClass_of_methodNamed Bd.named
  have hnm := (name_of_methodNamed Bd.named Bd.method).1
  have X0 : Stand p l e ({ frames := 0, cells := 0, slots := 0, locals := 0 } : Room) s m #[(.ref a), (.double (FP.l2d (d_.toInt64)))] below meth c s₁ [] 0 0 := Stand.of_body Bd
  have e0 : s₁.heap = h0 := by rw [← hh, Bd.state]; rfl
  have N0 := Fr.nil n0
  show own_Ends p.tables e below (own_P s (Q_rmM0 Z a s_ d_ h0 n0) ({ frames := 0, cells := 0, slots := 0, locals := 0 } : Room).cells ({ frames := 0, cells := 0, slots := 0, locals := 0 } : Room).slots) _
  refine own_cast (ef_rmM0 m a s_ d_) ?_
  show own_Ends _ _ _ _ (s₁.setTop (mkF m 0 #[.val (.ref a), .val (.double (FP.l2d (d_.toInt64))), .second] []))
  refine own_to (fun _ kont => XS.aloadN X0.here hx rfl (hb hby d6_0) rfl rfl kont) ?_
  show own_Ends _ _ _ _ (s₁.setTop (mkF m 1 #[.val (.ref a), .val (.double (FP.l2d (d_.toInt64))), .second] [(.ref a)]))
  obtain ⟨T1, X1, e1, st1⟩ := getF X0 hx hZ hown (host := "") (Or.inl (ow24 hw)) Via.refl e0 F_ang (g := (mkF m 1 #[.val (.ref a), .val (.double (FP.l2d (d_.toInt64))), .second] [(.ref a)])) rfl rfl (hb hby d6_1)
  refine own_to st1 ?_
  show own_Ends _ _ _ _ (T1.setTop (mkF m 4 #[.val (.ref a), .val (.double (FP.l2d (d_.toInt64))), .second] [(.int 0)]))
  refine own_to (fun _ kont => XS.ifYes X1.here hx rfl (pc0 := 4) (pc' := 16) rfl (hb hby d6_4) rfl ((if0 _ _).trans (teq (by decide)).1) (by decide) (by decide) kont) ?_
  show own_Ends _ _ _ _ (T1.setTop (mkF m 16 #[.val (.ref a), .val (.double (FP.l2d (d_.toInt64))), .second] []))
  refine own_to (fun _ kont => XS.aloadN X1.here hx rfl (hb hby d6_16) rfl rfl kont) ?_
  show own_Ends _ _ _ _ (T1.setTop (mkF m 17 #[.val (.ref a), .val (.double (FP.l2d (d_.toInt64))), .second] [(.ref a)]))
  obtain ⟨T2, X2, e2, st2⟩ := getF X1 hx hZ hown (host := "") (Or.inl (ow26 hw)) Via.refl e1 F_size (g := (mkF m 17 #[.val (.ref a), .val (.double (FP.l2d (d_.toInt64))), .second] [(.ref a)])) rfl rfl (hb hby d6_17)
  refine own_to st2 ?_
  show own_Ends _ _ _ _ (T2.setTop (mkF m 20 #[.val (.ref a), .val (.double (FP.l2d (d_.toInt64))), .second] [(.double (FP.l2d s_))]))
  refine own_leave X2 (v := some (.double (FP.l2d s_))) (fun h => by rw [Bd.returns] at h; cases h) ?_ (by decide) (by decide) (fun fs hr => retOut X2 hx Bd.returns rfl (Or.inr (Or.inr (Or.inl ⟨rfl, rfl, _, rfl⟩))) (hb hby d6_20) hr)
  show Q_rmM0 Z a s_ d_ h0 n0 _ T2.heap _
  rw [e2]
  exact ⟨rfl, N0, rfl⟩
theorem d6_7 : decode prog_36_method_2_code 7 = .ok (.aload_n 0, 1) := by decide +kernel
theorem d6_8 : decode prog_36_method_2_code 8 = .ok (.getfield 28, 3) := by decide +kernel
theorem d6_11 : decode prog_36_method_2_code 11 = .ok (.dload_n 1, 1) := by decide +kernel
theorem d6_12 : decode prog_36_method_2_code 12 = .ok (.dmul, 1) := by decide +kernel
theorem d6_13 : decode prog_36_method_2_code 13 = .ok (.goto 7, 3) := by decide +kernel
theorem ef_rmM1 (m : MethodId) (a : Addr) (s_ : Int64) (d_ : Int32) : entryFrame m #[(.ref a), (.double (FP.l2d (d_.toInt64)))] 3 = mkF m 0 #[.val (.ref a), .val (.double (FP.l2d (d_.toInt64))), .second] [] := by first | (simp [entryFrame, mkF, argsToLocals, Value.category]; done) | rfl | (rcases ref_cases hrf with rfl | ⟨q, rfl⟩ <;> rfl)
def Q_rmM1 (Z : State) (a : Addr) (s_ : Int64) (d_ : Int32) (h0 : Heap) (n0 : Nat) (v : Option Value) (h : Heap) (L : List Loc) : Prop := v = some (.double (FP.l2d (s_ * (d_.toInt64)))) ∧ Fr n0 L ∧ h = h0
set_option maxRecDepth 65536 in
set_option maxHeartbeats 40000000 in
theorem rmM1 (l : Launch) (Z : State) (a0 : Array Value) (hw : ∀ d ∈ tables_1, d.before a0 Z = true) (ws : List Jvm.Cond) (a : Addr) (s_ : Int64) (d_ : Int32) (h0 : Heap) (n0 : Nat) (O0 : Old Z n0 h0) (F_ang : Fld Z h0 a "com/example/latmere/latmere/spatial/MapUnit" "angular" "Z" (.int (1 : Int32))) (F_size : Fld Z h0 a "com/example/latmere/latmere/spatial/MapUnit" "size" "D" (.double (FP.l2d s_))) (hs0 : (0 : Int64) < s_) (hs1 : s_.toInt ≤ 1048576) :
    MetFree l oM4 (head1 (Jvm.Cond.code oM4 prog_36_method_2_code 3 (some .double) :: ws) ({ frames := 0, cells := 0, slots := 0, locals := 0 } : Room)) (fun aq_ U => aq_ = #[(.ref a), (.double (FP.l2d (d_.toInt64)))] ∧ Z.Warmed39 U.vm ∧ U.heap = h0) (fun _ _ _ _ _ => True) (fun _ U o U' => ∃ v L, o = .returned v ∧ Q_rmM1 Z a s_ d_ h0 n0 v U'.heap L ∧ FrameEnd U o U' L ({ frames := 0, cells := 0, slots := 0, locals := 0 } : Room).cells ({ frames := 0, cells := 0, slots := 0, locals := 0 } : Room).slots) := by
  refine MetFree.of_bodySF (plainFor_of_name pn_6) hisR ?_
  intro p e s m args below meth c s₁ Bd hml0 hP hK
  obtain ⟨rfl, hZ, hh⟩ := hP
  have hx := Bd.exec
  have hby := Bd.bytes
  have hml : c.maxLocals = 3 := hml0
  have hown : s.vm.findClass "com/example/latmere/latmere/spatial/MapUnit" = some m.cls := findClass_of_methodNamed Bd.named
  have hnm := (name_of_methodNamed Bd.named Bd.method).1
  have X0 : Stand p l e ({ frames := 0, cells := 0, slots := 0, locals := 0 } : Room) s m #[(.ref a), (.double (FP.l2d (d_.toInt64)))] below meth c s₁ [] 0 0 := Stand.of_body Bd
  have e0 : s₁.heap = h0 := by rw [← hh, Bd.state]; rfl
  have N0 := Fr.nil n0
  show own_Ends p.tables e below (own_P s (Q_rmM1 Z a s_ d_ h0 n0) ({ frames := 0, cells := 0, slots := 0, locals := 0 } : Room).cells ({ frames := 0, cells := 0, slots := 0, locals := 0 } : Room).slots) _
  refine own_cast (ef_rmM1 m a s_ d_) ?_
  show own_Ends _ _ _ _ (s₁.setTop (mkF m 0 #[.val (.ref a), .val (.double (FP.l2d (d_.toInt64))), .second] []))
  refine own_to (fun _ kont => XS.aloadN X0.here hx rfl (hb hby d6_0) rfl rfl kont) ?_
  show own_Ends _ _ _ _ (s₁.setTop (mkF m 1 #[.val (.ref a), .val (.double (FP.l2d (d_.toInt64))), .second] [(.ref a)]))
  obtain ⟨T1, X1, e1, st1⟩ := getF X0 hx hZ hown (host := "") (Or.inl (ow24 hw)) Via.refl e0 F_ang (g := (mkF m 1 #[.val (.ref a), .val (.double (FP.l2d (d_.toInt64))), .second] [(.ref a)])) rfl rfl (hb hby d6_1)
  refine own_to st1 ?_
  show own_Ends _ _ _ _ (T1.setTop (mkF m 4 #[.val (.ref a), .val (.double (FP.l2d (d_.toInt64))), .second] [(.int 1)]))
  refine own_to (fun _ kont => XS.ifNo X1.here hx rfl (hb hby d6_4) rfl ((if0 _ _).trans (feq (by decide)).1) kont) ?_
  show own_Ends _ _ _ _ (T1.setTop (mkF m 7 #[.val (.ref a), .val (.double (FP.l2d (d_.toInt64))), .second] []))
  refine own_to (fun _ kont => XS.aloadN X1.here hx rfl (hb hby d6_7) rfl rfl kont) ?_
  show own_Ends _ _ _ _ (T1.setTop (mkF m 8 #[.val (.ref a), .val (.double (FP.l2d (d_.toInt64))), .second] [(.ref a)]))
  obtain ⟨T2, X2, e2, st2⟩ := getF X1 hx hZ hown (host := "") (Or.inl (ow26 hw)) Via.refl e1 F_size (g := (mkF m 8 #[.val (.ref a), .val (.double (FP.l2d (d_.toInt64))), .second] [(.ref a)])) rfl rfl (hb hby d6_8)
  refine own_to st2 ?_
  show own_Ends _ _ _ _ (T2.setTop (mkF m 11 #[.val (.ref a), .val (.double (FP.l2d (d_.toInt64))), .second] [(.double (FP.l2d s_))]))
  refine own_to (fun _ kont => XS.dloadN X2.here hx rfl (hb hby d6_11) rfl kont) ?_
  show own_Ends _ _ _ _ (T2.setTop (mkF m 12 #[.val (.ref a), .val (.double (FP.l2d (d_.toInt64))), .second] [(.double (FP.l2d (d_.toInt64))), (.double (FP.l2d s_))]))
  refine own_to (fun _ kont => XS.dmulS X2.here hx rfl (v := (FP.l2d (s_ * (d_.toInt64)))) (hb hby d6_12) rfl (nn_w (own_mul d_ hs0 hs1)) (own_mul d_ hs0 hs1) kont) ?_
  show own_Ends _ _ _ _ (T2.setTop (mkF m 13 #[.val (.ref a), .val (.double (FP.l2d (d_.toInt64))), .second] [(.double (FP.l2d (s_ * (d_.toInt64))))]))
  refine own_to (fun _ kont => XS.goto X2.here hx rfl (pc0 := 13) (pc' := 20) rfl (hb hby d6_13) (by decide) (by decide) kont) ?_
  show own_Ends _ _ _ _ (T2.setTop (mkF m 20 #[.val (.ref a), .val (.double (FP.l2d (d_.toInt64))), .second] [(.double (FP.l2d (s_ * (d_.toInt64))))]))
  refine own_leave X2 (v := some (.double (FP.l2d (s_ * (d_.toInt64))))) (fun h => by rw [Bd.returns] at h; cases h) ?_ (by decide) (by decide) (fun fs hr => retOut X2 hx Bd.returns rfl (Or.inr (Or.inr (Or.inl ⟨rfl, rfl, _, rfl⟩))) (hb hby d6_20) hr)
  show Q_rmM1 Z a s_ d_ h0 n0 _ T2.heap _
  rw [e2]
  exact ⟨rfl, N0, rfl⟩
theorem pn_0 : plainName "com/example/latmere/latmere/spatial/MapUnitMetresPinLaw" = true := by first | (simp [plainName, overriddenIn]; done) | decide +kernel
theorem pd_3 : parseMethodDescriptor "(ZD)V" = some ⟨[.boolean, .double], none⟩ := by decide +kernel
theorem ef_rm0 (m : MethodId) (z1 : Int32) (z2 : Int32) (z3 : Int32) : entryFrame m #[(.int z1), (.int z2), (.int z3)] maxLocals = mkF m 0 #[.val (.int z1), .val (.int z2), .val (.int z3), .unset, .unset, .unset, .unset, .unset, .unset, .unset, .unset] [] := by first | (simp [entryFrame, mkF, argsToLocals, Value.category, maxLocals]; done) | rfl | (rcases ref_cases hrf with rfl | ⟨q, rfl⟩ <;> rfl)
def Q_rm0 (Z : State) (z1 : Int32) (z2 : Int32) (z3 : Int32)  (h0 : Heap) (n0 : Nat) (v : Option Value) (h : Heap) (L : List Loc) : Prop := v = some (.int 1) ∧ Fr n0 L
set_option maxRecDepth 65536 in
set_option maxHeartbeats 40000000 in
theorem rm0 (l : Launch) (Z : State) (a0 : Array Value) (hw : ∀ d ∈ tables_1, d.before a0 Z = true) (ws : List Jvm.Cond) (z1 : Int32) (z2 : Int32) (z3 : Int32)  (h0 : Heap) (n0 : Nat) (O0 : Old Z n0 h0) :
    MetFree l x (head1 (Jvm.Cond.code x code maxLocals ret :: ws) room_1) (fun aq_ U => aq_ = #[(.int z1), (.int z2), (.int z3)] ∧ Z.Warmed39 U.vm ∧ U.heap = h0) (fun _ _ _ _ _ => True) (fun _ U o U' => ∃ v L, o = .returned v ∧ Q_rm0 Z z1 z2 z3 h0 n0 v U'.heap L ∧ FrameEnd U o U' L 16 128) := by
  refine MetFree.of_bodySF (plainFor_of_name pn_0) hisR ?_
  intro p e s m args below meth c s₁ Bd hml0 hP hK
  obtain ⟨rfl, hZ, hh⟩ := hP
  have hx := Bd.exec
  have hby := Bd.bytes
  have hml : c.maxLocals = 11 := hml0
  have hown : s.vm.findClass "com/example/latmere/latmere/spatial/MapUnitMetresPinLaw" = some m.cls := findClass_of_methodNamed Bd.named
  have hnm := (name_of_methodNamed Bd.named Bd.method).1
  have X0 : Stand p l e room_1 s m #[(.int z1), (.int z2), (.int z3)] below meth c s₁ [] 0 0 := Stand.of_body Bd
  have e0 : s₁.heap = h0 := by rw [← hh, Bd.state]; rfl
  have N0 := Fr.nil n0
  show own_Ends p.tables e below (own_P s (Q_rm0 Z z1 z2 z3 h0 n0) 16 128) _
  refine own_cast (ef_rm0 m z1 z2 z3) ?_
  show own_Ends _ _ _ _ (s₁.setTop (mkF m 0 #[.val (.int z1), .val (.int z2), .val (.int z3), .unset, .unset, .unset, .unset, .unset, .unset, .unset, .unset] []))
  refine own_to (fun _ kont => XS.iloadN X0.here hx rfl (hb hby at_0) rfl kont) ?_
  show own_Ends _ _ _ _ (s₁.setTop (mkF m 1 #[.val (.int z1), .val (.int z2), .val (.int z3), .unset, .unset, .unset, .unset, .unset, .unset, .unset, .unset] [(.int z1)]))
  refine own_to (fun _ kont => XS.iconst X0.here hx rfl (hb hby at_1) kont) ?_
  show own_Ends _ _ _ _ (s₁.setTop (mkF m 2 #[.val (.int z1), .val (.int z2), .val (.int z3), .unset, .unset, .unset, .unset, .unset, .unset, .unset, .unset] [(.int 1), (.int z1)]))
  refine own_to (fun _ kont => XS.iand X0.here hx rfl (hb hby at_2) rfl kont) ?_
  show own_Ends _ _ _ _ (s₁.setTop (mkF m 3 #[.val (.int z1), .val (.int z2), .val (.int z3), .unset, .unset, .unset, .unset, .unset, .unset, .unset, .unset] [(.int (z1 &&& 1))]))
  by_cases hc3_1 : (z1 &&& (1 : Int32)) = (0 : Int32)
  · -- pc 3: (z1 &&& (1 : Int32)) = (0 : Int32)
    refine own_to (fun _ kont => XS.ifYes X0.here hx rfl (pc0 := 3) (pc' := 10) rfl (hb hby at_3) rfl ((if0 _ _).trans (teq hc3_1).1) (by decide) (by decide) kont) ?_
    show own_Ends _ _ _ _ (s₁.setTop (mkF m 10 #[.val (.int z1), .val (.int z2), .val (.int z3), .unset, .unset, .unset, .unset, .unset, .unset, .unset, .unset] []))
    refine own_to (fun _ kont => XS.iconst X0.here hx rfl (hb hby at_10) kont) ?_
    show own_Ends _ _ _ _ (s₁.setTop (mkF m 11 #[.val (.int z1), .val (.int z2), .val (.int z3), .unset, .unset, .unset, .unset, .unset, .unset, .unset, .unset] [(.int 0)]))
    refine own_to (fun _ kont => XS.istoreN X0.here hx rfl (hb hby at_11) rfl (l' := #[.val (.int z1), .val (.int z2), .val (.int z3), .val (.int (0 : Int32)), .unset, .unset, .unset, .unset, .unset, .unset, .unset]) rfl kont) ?_
    show own_Ends _ _ _ _ (s₁.setTop (mkF m 12 #[.val (.int z1), .val (.int z2), .val (.int z3), .val (.int 0), .unset, .unset, .unset, .unset, .unset, .unset, .unset] []))
    refine own_to (fun _ kont => XS.iloadN X0.here hx rfl (hb hby at_12) rfl kont) ?_
    show own_Ends _ _ _ _ (s₁.setTop (mkF m 13 #[.val (.int z1), .val (.int z2), .val (.int z3), .val (.int 0), .unset, .unset, .unset, .unset, .unset, .unset, .unset] [(.int z2)]))
    refine own_to (X0.ldcInt hx hown (mvT hZ (ow0 hw)) (g := (mkF m 13 #[.val (.int z1), .val (.int z2), .val (.int z3), .val (.int (0 : Int32)), .unset, .unset, .unset, .unset, .unset, .unset, .unset] [(.int z2)])) rfl (hb hby at_13)) ?_
    show own_Ends _ _ _ _ (s₁.setTop (mkF m 15 #[.val (.int z1), .val (.int z2), .val (.int z3), .val (.int 0), .unset, .unset, .unset, .unset, .unset, .unset, .unset] [(.int 1048575), (.int z2)]))
    refine own_to (fun _ kont => XS.iand X0.here hx rfl (hb hby at_15) rfl kont) ?_
    show own_Ends _ _ _ _ (s₁.setTop (mkF m 16 #[.val (.int z1), .val (.int z2), .val (.int z3), .val (.int 0), .unset, .unset, .unset, .unset, .unset, .unset, .unset] [(.int (z2 &&& 1048575))]))
    refine own_to (fun _ kont => XS.i2l X0.here hx rfl (hb hby at_16) rfl kont) ?_
    show own_Ends _ _ _ _ (s₁.setTop (mkF m 17 #[.val (.int z1), .val (.int z2), .val (.int z3), .val (.int 0), .unset, .unset, .unset, .unset, .unset, .unset, .unset] [(.long ((z2 &&& 1048575).toInt64))]))
    refine own_to (fun _ kont => XS.lconst X0.here hx rfl (hb hby at_17) kont) ?_
    show own_Ends _ _ _ _ (s₁.setTop (mkF m 18 #[.val (.int z1), .val (.int z2), .val (.int z3), .val (.int 0), .unset, .unset, .unset, .unset, .unset, .unset, .unset] [(.long (1 : Int64)), (.long ((z2 &&& 1048575).toInt64))]))
    refine own_to (fun _ kont => XS.ladd X0.here hx rfl (hb hby at_18) rfl kont) ?_
    show own_Ends _ _ _ _ (s₁.setTop (mkF m 19 #[.val (.int z1), .val (.int z2), .val (.int z3), .val (.int 0), .unset, .unset, .unset, .unset, .unset, .unset, .unset] [(.long (((z2 &&& 1048575).toInt64) + (1 : Int64)))]))
    refine own_to (fun _ kont => XS.lstore X0.here hx rfl (hb hby at_19) rfl (l' := #[.val (.int z1), .val (.int z2), .val (.int z3), .val (.int (0 : Int32)), .val (.long (((z2 &&& (1048575 : Int32)).toInt64) + (1 : Int64))), .second, .unset, .unset, .unset, .unset, .unset]) rfl kont) ?_
    show own_Ends _ _ _ _ (s₁.setTop (mkF m 21 #[.val (.int z1), .val (.int z2), .val (.int z3), .val (.int 0), .val (.long (((z2 &&& 1048575).toInt64) + (1 : Int64))), .second, .unset, .unset, .unset, .unset, .unset] []))
    obtain ⟨hs0, hs1⟩ := own_size z2
    generalize (((z2 &&& (1048575 : Int32)).toInt64) + (1 : Int64)) = s_ at hs0 hs1 ⊢
    show own_Ends _ _ _ _ (s₁.setTop (mkF m 21 #[.val (.int z1), .val (.int z2), .val (.int z3), .val (.int 0), .val (.long s_), .second, .unset, .unset, .unset, .unset, .unset] []))
    obtain ⟨T2, h2, X2, e2, E2, A2, D2, U2, st2⟩ := newO X0 hx hZ hown (ow1 hw) (ow2 hw) (ow3 hw) e0 (g := (mkF m 21 #[.val (.int z1), .val (.int z2), .val (.int z3), .val (.int (0 : Int32)), .val (.long s_), .second, .unset, .unset, .unset, .unset, .unset] [])) rfl (hb hby at_21) (by decide) (by decide)
    obtain ⟨b2, g2⟩ : ∃ z, z = h0.size := ⟨_, rfl⟩
    rw [← g2] at A2 D2 st2
    have g_b2 : n0 ≤ b2 := Nat.le_trans (own_old_le O0) (Nat.le_of_eq g2.symm)
    refine own_to st2 ?_
    have O2 := O0.ext E2
    have Fd2_angular : Fld Z h2 b2 "com/example/latmere/latmere/spatial/MapUnit" "angular" "Z" (.int (0 : Int32)) := D2 (Or.inr (ow25 hw)) (ty := .boolean) (by decide)
    have Fd2_size : Fld Z h2 b2 "com/example/latmere/latmere/spatial/MapUnit" "size" "D" (.double (0 : UInt64)) := D2 (Or.inr (ow27 hw)) (ty := .double) (by decide)
    show own_Ends _ _ _ _ (T2.setTop (mkF m 24 #[.val (.int z1), .val (.int z2), .val (.int z3), .val (.int 0), .val (.long s_), .second, .unset, .unset, .unset, .unset, .unset] [(.ref b2)]))
    refine own_to (fun _ kont => XS.dup X2.here hx rfl (hb hby at_24) rfl rfl kont) ?_
    show own_Ends _ _ _ _ (T2.setTop (mkF m 25 #[.val (.int z1), .val (.int z2), .val (.int z3), .val (.int 0), .val (.long s_), .second, .unset, .unset, .unset, .unset, .unset] [(.ref b2), (.ref b2)]))
    refine own_to (fun _ kont => XS.iloadN X2.here hx rfl (hb hby at_25) rfl kont) ?_
    show own_Ends _ _ _ _ (T2.setTop (mkF m 26 #[.val (.int z1), .val (.int z2), .val (.int z3), .val (.int 0), .val (.long s_), .second, .unset, .unset, .unset, .unset, .unset] [(.int 0), (.ref b2), (.ref b2)]))
    refine own_to (fun _ kont => XS.lload X2.here hx rfl (hb hby at_26) rfl kont) ?_
    show own_Ends _ _ _ _ (T2.setTop (mkF m 28 #[.val (.int z1), .val (.int z2), .val (.int z3), .val (.int 0), .val (.long s_), .second, .unset, .unset, .unset, .unset, .unset] [(.long s_), (.int 0), (.ref b2), (.ref b2)]))
    refine own_to (fun _ kont => XS.l2dS X2.here hx rfl (hb hby at_28) rfl rfl kont) ?_
    show own_Ends _ _ _ _ (T2.setTop (mkF m 29 #[.val (.int z1), .val (.int z2), .val (.int z3), .val (.int 0), .val (.long s_), .second, .unset, .unset, .unset, .unset, .unset] [(.double (FP.l2d s_)), (.int 0), (.ref b2), (.ref b2)]))
    obtain ⟨_, _, ⟨T3, L3, k3, n3⟩, -, X3, ⟨Lc3, hQ3, l3, y3, z3⟩, st3⟩ := X2.specialBack hx (y := oM3) rfl hown (mvT hZ (ow4 hw)) (mvT hZ (ow5 hw)) (mvT hZ (ow6 hw)) (by decide) (backOf (W := 1) (rmI l Z a0 hw [] b2 (0 : Int32) s_ h2 n0 O2 g_b2 A2 Fd2_angular Fd2_size hs0 hs1) hZ (ow6 hw) (ow3 hw) (by decide) (by decide)) (g := (mkF m 29 #[.val (.int z1), .val (.int z2), .val (.int z3), .val (.int (0 : Int32)), .val (.long s_), .second, .unset, .unset, .unset, .unset, .unset] [(.double (FP.l2d s_)), (.int (0 : Int32)), (.ref b2), (.ref b2)])) rfl (by rw [hml]; rfl) (Steps.refl _) (a := b2) (argsL := [(.int (0 : Int32)), (.double (FP.l2d s_))]) (rest := [(.ref b2)]) (lenOf pd_3 rfl) rfl (by show 2 * 0 + _ ≤ _; exact Nat.le_of_eq rfl) (hb hby at_29) (fun _ _ => ⟨rfl, e2, (own_le rfl), (own_le rfl)⟩)
    dsimp only [Pt.U, Pt.locs, Pt.cells, Pt.slots] at X3 l3 y3 z3 st3 hQ3
    subst l3 y3 z3
    obtain ⟨rfl, N3q, Oq3, Kq3, Ex3, Fx3, Fy3⟩ := hQ3
    have N3 := Fr.app N0 N3q
    refine own_tr st3 ?_
    show own_Ends _ _ _ _ (T3.setTop (mkF m 32 #[.val (.int z1), .val (.int z2), .val (.int z3), .val (.int 0), .val (.long s_), .second, .unset, .unset, .unset, .unset, .unset] [(.ref b2)]))
    refine own_to (fun _ kont => XS.astore X3.here hx rfl (hb hby at_32) rfl rfl (l' := #[.val (.int z1), .val (.int z2), .val (.int z3), .val (.int (0 : Int32)), .val (.long s_), .second, .val (.ref b2), .unset, .unset, .unset, .unset]) rfl kont) ?_
    show own_Ends _ _ _ _ (T3.setTop (mkF m 34 #[.val (.int z1), .val (.int z2), .val (.int z3), .val (.int 0), .val (.long s_), .second, .val (.ref b2), .unset, .unset, .unset, .unset] []))
    refine own_to (fun _ kont => XS.aload X3.here hx rfl (hb hby at_34) rfl rfl kont) ?_
    show own_Ends _ _ _ _ (T3.setTop (mkF m 36 #[.val (.int z1), .val (.int z2), .val (.int z3), .val (.int 0), .val (.long s_), .second, .val (.ref b2), .unset, .unset, .unset, .unset] [(.ref b2)]))
    refine own_to (fun _ kont => XS.iloadN X3.here hx rfl (hb hby at_36) rfl kont) ?_
    show own_Ends _ _ _ _ (T3.setTop (mkF m 37 #[.val (.int z1), .val (.int z2), .val (.int z3), .val (.int 0), .val (.long s_), .second, .val (.ref b2), .unset, .unset, .unset, .unset] [(.int z3), (.ref b2)]))
    refine own_to (fun _ kont => XS.i2dS X3.here hx rfl (hb hby at_37) rfl (i2d_w _) kont) ?_
    show own_Ends _ _ _ _ (T3.setTop (mkF m 38 #[.val (.int z1), .val (.int z2), .val (.int z3), .val (.int 0), .val (.long s_), .second, .val (.ref b2), .unset, .unset, .unset, .unset] [(.double (FP.l2d (z3.toInt64))), (.ref b2)]))
    obtain ⟨cq4, kq4, q4a, q4b, q4c⟩ := isOf hZ rfl Ex3
    obtain ⟨_, _, ⟨T4, L4, k4, n4⟩, -, X4, ⟨Lc4, hQ4, l4, y4, z4⟩, st4⟩ := X3.virtualBack hx (y := oM4) (z := oM4) hown (mvT hZ (ow28 hw)) (mvT hZ (ow29 hw)) (notFace_of_selects (args := #[]) (mvT hZ (ow31 hw))) (mvT hZ (ow31 hw)) (mvT hZ (ow30 hw)) (by decide) (backOf (W := 0) (rmM0 l Z a0 hw [] b2 s_ z3 T3.heap n0 Oq3 Fx3 Fy3 hs0 hs1) hZ (ow32 hw) (ow3 hw) (by decide) (by decide)) q4a q4c (g := (mkF m 38 #[.val (.int z1), .val (.int z2), .val (.int z3), .val (.int (0 : Int32)), .val (.long s_), .second, .val (.ref b2), .unset, .unset, .unset, .unset] [(.double (FP.l2d (z3.toInt64))), (.ref b2)])) rfl (by rw [hml]; rfl) (Steps.refl _) (argsL := [(.double (FP.l2d (z3.toInt64)))]) (rest := []) (lenOf pd_0 rfl) rfl (by show 2 * 0 + _ ≤ _; exact Nat.le_of_eq rfl) (hb hby at_38) (fun _ _ => ⟨rfl, rfl, (own_le rfl), (own_le rfl)⟩)
    dsimp only [Pt.U, Pt.locs, Pt.cells, Pt.slots] at X4 l4 y4 z4 st4 hQ4
    subst l4 y4 z4
    obtain ⟨rfl, N4q, E4⟩ := hQ4
    have N4 := Fr.app N3 N4q
    refine own_tr st4 ?_
    show own_Ends _ _ _ _ (T4.setTop (mkF m 41 #[.val (.int z1), .val (.int z2), .val (.int z3), .val (.int 0), .val (.long s_), .second, .val (.ref b2), .unset, .unset, .unset, .unset] [(.double (FP.l2d s_))]))
    refine own_to (fun _ kont => XS.dstore X4.here hx rfl (hb hby at_41) rfl (l' := #[.val (.int z1), .val (.int z2), .val (.int z3), .val (.int (0 : Int32)), .val (.long s_), .second, .val (.ref b2), .val (.double (FP.l2d s_)), .second, .unset, .unset]) rfl kont) ?_
    show own_Ends _ _ _ _ (T4.setTop (mkF m 43 #[.val (.int z1), .val (.int z2), .val (.int z3), .val (.int 0), .val (.long s_), .second, .val (.ref b2), .val (.double (FP.l2d s_)), .second, .unset, .unset] []))
    refine own_to (fun _ kont => XS.iloadN X4.here hx rfl (hb hby at_43) rfl kont) ?_
    show own_Ends _ _ _ _ (T4.setTop (mkF m 44 #[.val (.int z1), .val (.int z2), .val (.int z3), .val (.int 0), .val (.long s_), .second, .val (.ref b2), .val (.double (FP.l2d s_)), .second, .unset, .unset] [(.int 0)]))
    refine own_to (fun _ kont => XS.ifYes X4.here hx rfl (pc0 := 44) (pc' := 57) rfl (hb hby at_44) rfl ((if0 _ _).trans (teq (by decide)).1) (by decide) (by decide) kont) ?_
    show own_Ends _ _ _ _ (T4.setTop (mkF m 57 #[.val (.int z1), .val (.int z2), .val (.int z3), .val (.int 0), .val (.long s_), .second, .val (.ref b2), .val (.double (FP.l2d s_)), .second, .unset, .unset] []))
    refine own_to (fun _ kont => XS.lload X4.here hx rfl (hb hby at_57) rfl kont) ?_
    show own_Ends _ _ _ _ (T4.setTop (mkF m 59 #[.val (.int z1), .val (.int z2), .val (.int z3), .val (.int 0), .val (.long s_), .second, .val (.ref b2), .val (.double (FP.l2d s_)), .second, .unset, .unset] [(.long s_)]))
    refine own_to (fun _ kont => XS.lstore X4.here hx rfl (hb hby at_59) rfl (l' := #[.val (.int z1), .val (.int z2), .val (.int z3), .val (.int (0 : Int32)), .val (.long s_), .second, .val (.ref b2), .val (.double (FP.l2d s_)), .second, .val (.long s_), .second]) rfl kont) ?_
    show own_Ends _ _ _ _ (T4.setTop (mkF m 61 #[.val (.int z1), .val (.int z2), .val (.int z3), .val (.int 0), .val (.long s_), .second, .val (.ref b2), .val (.double (FP.l2d s_)), .second, .val (.long s_), .second] []))
    refine own_to (fun _ kont => XS.dload X4.here hx rfl (hb hby at_61) rfl kont) ?_
    show own_Ends _ _ _ _ (T4.setTop (mkF m 63 #[.val (.int z1), .val (.int z2), .val (.int z3), .val (.int 0), .val (.long s_), .second, .val (.ref b2), .val (.double (FP.l2d s_)), .second, .val (.long s_), .second] [(.double (FP.l2d s_))]))
    refine own_to (fun _ kont => XS.lload X4.here hx rfl (hb hby at_63) rfl kont) ?_
    show own_Ends _ _ _ _ (T4.setTop (mkF m 65 #[.val (.int z1), .val (.int z2), .val (.int z3), .val (.int 0), .val (.long s_), .second, .val (.ref b2), .val (.double (FP.l2d s_)), .second, .val (.long s_), .second] [(.long s_), (.double (FP.l2d s_))]))
    refine own_to (fun _ kont => XS.l2dS X4.here hx rfl (hb hby at_65) rfl rfl kont) ?_
    show own_Ends _ _ _ _ (T4.setTop (mkF m 66 #[.val (.int z1), .val (.int z2), .val (.int z3), .val (.int 0), .val (.long s_), .second, .val (.ref b2), .val (.double (FP.l2d s_)), .second, .val (.long s_), .second] [(.double (FP.l2d s_)), (.double (FP.l2d s_))]))
    refine own_to (fun _ kont => XS.dcmpS X4.here hx rfl (v := (0 : Int32)) (hb hby at_66) rfl (dcmpV_self (nn_w rfl) .l) kont) ?_
    show own_Ends _ _ _ _ (T4.setTop (mkF m 67 #[.val (.int z1), .val (.int z2), .val (.int z3), .val (.int 0), .val (.long s_), .second, .val (.ref b2), .val (.double (FP.l2d s_)), .second, .val (.long s_), .second] [(.int 0)]))
    refine own_to (fun _ kont => XS.ifNo X4.here hx rfl (hb hby at_67) rfl ((if0 _ _).trans (teq (by decide)).2) kont) ?_
    show own_Ends _ _ _ _ (T4.setTop (mkF m 70 #[.val (.int z1), .val (.int z2), .val (.int z3), .val (.int 0), .val (.long s_), .second, .val (.ref b2), .val (.double (FP.l2d s_)), .second, .val (.long s_), .second] []))
    refine own_to (fun _ kont => XS.iconst X4.here hx rfl (hb hby at_70) kont) ?_
    show own_Ends _ _ _ _ (T4.setTop (mkF m 71 #[.val (.int z1), .val (.int z2), .val (.int z3), .val (.int 0), .val (.long s_), .second, .val (.ref b2), .val (.double (FP.l2d s_)), .second, .val (.long s_), .second] [(.int 1)]))
    refine own_to (fun _ kont => XS.goto X4.here hx rfl (pc0 := 71) (pc' := 75) rfl (hb hby at_71) (by decide) (by decide) kont) ?_
    show own_Ends _ _ _ _ (T4.setTop (mkF m 75 #[.val (.int z1), .val (.int z2), .val (.int z3), .val (.int 0), .val (.long s_), .second, .val (.ref b2), .val (.double (FP.l2d s_)), .second, .val (.long s_), .second] [(.int 1)]))
    refine own_leave X4 (v := some (.int (1 : Int32))) (fun h => by rw [Bd.returns] at h; cases h) ?_ (by decide) (by decide) (fun fs hr => retN X4 hx (t := .boolean) Bd.returns (by simp) (hb hby at_75) hr)
    show Q_rm0 Z z1 z2 z3 h0 n0 _ T4.heap _
    rw [E4]
    exact ⟨rfl, N4⟩
  · -- pc 3: not (z1 &&& (1 : Int32)) = (0 : Int32)
    refine own_to (fun _ kont => XS.ifNo X0.here hx rfl (hb hby at_3) rfl ((if0 _ _).trans (feq hc3_1).1) kont) ?_
    show own_Ends _ _ _ _ (s₁.setTop (mkF m 6 #[.val (.int z1), .val (.int z2), .val (.int z3), .unset, .unset, .unset, .unset, .unset, .unset, .unset, .unset] []))
    refine own_to (fun _ kont => XS.iconst X0.here hx rfl (hb hby at_6) kont) ?_
    show own_Ends _ _ _ _ (s₁.setTop (mkF m 7 #[.val (.int z1), .val (.int z2), .val (.int z3), .unset, .unset, .unset, .unset, .unset, .unset, .unset, .unset] [(.int 1)]))
    refine own_to (fun _ kont => XS.goto X0.here hx rfl (pc0 := 7) (pc' := 11) rfl (hb hby at_7) (by decide) (by decide) kont) ?_
    show own_Ends _ _ _ _ (s₁.setTop (mkF m 11 #[.val (.int z1), .val (.int z2), .val (.int z3), .unset, .unset, .unset, .unset, .unset, .unset, .unset, .unset] [(.int 1)]))
    refine own_to (fun _ kont => XS.istoreN X0.here hx rfl (hb hby at_11) rfl (l' := #[.val (.int z1), .val (.int z2), .val (.int z3), .val (.int (1 : Int32)), .unset, .unset, .unset, .unset, .unset, .unset, .unset]) rfl kont) ?_
    show own_Ends _ _ _ _ (s₁.setTop (mkF m 12 #[.val (.int z1), .val (.int z2), .val (.int z3), .val (.int 1), .unset, .unset, .unset, .unset, .unset, .unset, .unset] []))
    refine own_to (fun _ kont => XS.iloadN X0.here hx rfl (hb hby at_12) rfl kont) ?_
    show own_Ends _ _ _ _ (s₁.setTop (mkF m 13 #[.val (.int z1), .val (.int z2), .val (.int z3), .val (.int 1), .unset, .unset, .unset, .unset, .unset, .unset, .unset] [(.int z2)]))
    refine own_to (X0.ldcInt hx hown (mvT hZ (ow0 hw)) (g := (mkF m 13 #[.val (.int z1), .val (.int z2), .val (.int z3), .val (.int (1 : Int32)), .unset, .unset, .unset, .unset, .unset, .unset, .unset] [(.int z2)])) rfl (hb hby at_13)) ?_
    show own_Ends _ _ _ _ (s₁.setTop (mkF m 15 #[.val (.int z1), .val (.int z2), .val (.int z3), .val (.int 1), .unset, .unset, .unset, .unset, .unset, .unset, .unset] [(.int 1048575), (.int z2)]))
    refine own_to (fun _ kont => XS.iand X0.here hx rfl (hb hby at_15) rfl kont) ?_
    show own_Ends _ _ _ _ (s₁.setTop (mkF m 16 #[.val (.int z1), .val (.int z2), .val (.int z3), .val (.int 1), .unset, .unset, .unset, .unset, .unset, .unset, .unset] [(.int (z2 &&& 1048575))]))
    refine own_to (fun _ kont => XS.i2l X0.here hx rfl (hb hby at_16) rfl kont) ?_
    show own_Ends _ _ _ _ (s₁.setTop (mkF m 17 #[.val (.int z1), .val (.int z2), .val (.int z3), .val (.int 1), .unset, .unset, .unset, .unset, .unset, .unset, .unset] [(.long ((z2 &&& 1048575).toInt64))]))
    refine own_to (fun _ kont => XS.lconst X0.here hx rfl (hb hby at_17) kont) ?_
    show own_Ends _ _ _ _ (s₁.setTop (mkF m 18 #[.val (.int z1), .val (.int z2), .val (.int z3), .val (.int 1), .unset, .unset, .unset, .unset, .unset, .unset, .unset] [(.long (1 : Int64)), (.long ((z2 &&& 1048575).toInt64))]))
    refine own_to (fun _ kont => XS.ladd X0.here hx rfl (hb hby at_18) rfl kont) ?_
    show own_Ends _ _ _ _ (s₁.setTop (mkF m 19 #[.val (.int z1), .val (.int z2), .val (.int z3), .val (.int 1), .unset, .unset, .unset, .unset, .unset, .unset, .unset] [(.long (((z2 &&& 1048575).toInt64) + (1 : Int64)))]))
    refine own_to (fun _ kont => XS.lstore X0.here hx rfl (hb hby at_19) rfl (l' := #[.val (.int z1), .val (.int z2), .val (.int z3), .val (.int (1 : Int32)), .val (.long (((z2 &&& (1048575 : Int32)).toInt64) + (1 : Int64))), .second, .unset, .unset, .unset, .unset, .unset]) rfl kont) ?_
    show own_Ends _ _ _ _ (s₁.setTop (mkF m 21 #[.val (.int z1), .val (.int z2), .val (.int z3), .val (.int 1), .val (.long (((z2 &&& 1048575).toInt64) + (1 : Int64))), .second, .unset, .unset, .unset, .unset, .unset] []))
    obtain ⟨hs0, hs1⟩ := own_size z2
    generalize (((z2 &&& (1048575 : Int32)).toInt64) + (1 : Int64)) = s_ at hs0 hs1 ⊢
    show own_Ends _ _ _ _ (s₁.setTop (mkF m 21 #[.val (.int z1), .val (.int z2), .val (.int z3), .val (.int 1), .val (.long s_), .second, .unset, .unset, .unset, .unset, .unset] []))
    obtain ⟨T5, h5, X5, e5, E5, A5, D5, U5, st5⟩ := newO X0 hx hZ hown (ow1 hw) (ow2 hw) (ow3 hw) e0 (g := (mkF m 21 #[.val (.int z1), .val (.int z2), .val (.int z3), .val (.int (1 : Int32)), .val (.long s_), .second, .unset, .unset, .unset, .unset, .unset] [])) rfl (hb hby at_21) (by decide) (by decide)
    obtain ⟨b5, g5⟩ : ∃ z, z = h0.size := ⟨_, rfl⟩
    rw [← g5] at A5 D5 st5
    have g_b5 : n0 ≤ b5 := Nat.le_trans (own_old_le O0) (Nat.le_of_eq g5.symm)
    refine own_to st5 ?_
    have O5 := O0.ext E5
    have Fd5_angular : Fld Z h5 b5 "com/example/latmere/latmere/spatial/MapUnit" "angular" "Z" (.int (0 : Int32)) := D5 (Or.inr (ow25 hw)) (ty := .boolean) (by decide)
    have Fd5_size : Fld Z h5 b5 "com/example/latmere/latmere/spatial/MapUnit" "size" "D" (.double (0 : UInt64)) := D5 (Or.inr (ow27 hw)) (ty := .double) (by decide)
    show own_Ends _ _ _ _ (T5.setTop (mkF m 24 #[.val (.int z1), .val (.int z2), .val (.int z3), .val (.int 1), .val (.long s_), .second, .unset, .unset, .unset, .unset, .unset] [(.ref b5)]))
    refine own_to (fun _ kont => XS.dup X5.here hx rfl (hb hby at_24) rfl rfl kont) ?_
    show own_Ends _ _ _ _ (T5.setTop (mkF m 25 #[.val (.int z1), .val (.int z2), .val (.int z3), .val (.int 1), .val (.long s_), .second, .unset, .unset, .unset, .unset, .unset] [(.ref b5), (.ref b5)]))
    refine own_to (fun _ kont => XS.iloadN X5.here hx rfl (hb hby at_25) rfl kont) ?_
    show own_Ends _ _ _ _ (T5.setTop (mkF m 26 #[.val (.int z1), .val (.int z2), .val (.int z3), .val (.int 1), .val (.long s_), .second, .unset, .unset, .unset, .unset, .unset] [(.int 1), (.ref b5), (.ref b5)]))
    refine own_to (fun _ kont => XS.lload X5.here hx rfl (hb hby at_26) rfl kont) ?_
    show own_Ends _ _ _ _ (T5.setTop (mkF m 28 #[.val (.int z1), .val (.int z2), .val (.int z3), .val (.int 1), .val (.long s_), .second, .unset, .unset, .unset, .unset, .unset] [(.long s_), (.int 1), (.ref b5), (.ref b5)]))
    refine own_to (fun _ kont => XS.l2dS X5.here hx rfl (hb hby at_28) rfl rfl kont) ?_
    show own_Ends _ _ _ _ (T5.setTop (mkF m 29 #[.val (.int z1), .val (.int z2), .val (.int z3), .val (.int 1), .val (.long s_), .second, .unset, .unset, .unset, .unset, .unset] [(.double (FP.l2d s_)), (.int 1), (.ref b5), (.ref b5)]))
    obtain ⟨_, _, ⟨T6, L6, k6, n6⟩, -, X6, ⟨Lc6, hQ6, l6, y6, z6⟩, st6⟩ := X5.specialBack hx (y := oM3) rfl hown (mvT hZ (ow4 hw)) (mvT hZ (ow5 hw)) (mvT hZ (ow6 hw)) (by decide) (backOf (W := 1) (rmI l Z a0 hw [] b5 (1 : Int32) s_ h5 n0 O5 g_b5 A5 Fd5_angular Fd5_size hs0 hs1) hZ (ow6 hw) (ow3 hw) (by decide) (by decide)) (g := (mkF m 29 #[.val (.int z1), .val (.int z2), .val (.int z3), .val (.int (1 : Int32)), .val (.long s_), .second, .unset, .unset, .unset, .unset, .unset] [(.double (FP.l2d s_)), (.int (1 : Int32)), (.ref b5), (.ref b5)])) rfl (by rw [hml]; rfl) (Steps.refl _) (a := b5) (argsL := [(.int (1 : Int32)), (.double (FP.l2d s_))]) (rest := [(.ref b5)]) (lenOf pd_3 rfl) rfl (by show 2 * 0 + _ ≤ _; exact Nat.le_of_eq rfl) (hb hby at_29) (fun _ _ => ⟨rfl, e5, (own_le rfl), (own_le rfl)⟩)
    dsimp only [Pt.U, Pt.locs, Pt.cells, Pt.slots] at X6 l6 y6 z6 st6 hQ6
    subst l6 y6 z6
    obtain ⟨rfl, N6q, Oq6, Kq6, Ex6, Fx6, Fy6⟩ := hQ6
    have N6 := Fr.app N0 N6q
    refine own_tr st6 ?_
    show own_Ends _ _ _ _ (T6.setTop (mkF m 32 #[.val (.int z1), .val (.int z2), .val (.int z3), .val (.int 1), .val (.long s_), .second, .unset, .unset, .unset, .unset, .unset] [(.ref b5)]))
    refine own_to (fun _ kont => XS.astore X6.here hx rfl (hb hby at_32) rfl rfl (l' := #[.val (.int z1), .val (.int z2), .val (.int z3), .val (.int (1 : Int32)), .val (.long s_), .second, .val (.ref b5), .unset, .unset, .unset, .unset]) rfl kont) ?_
    show own_Ends _ _ _ _ (T6.setTop (mkF m 34 #[.val (.int z1), .val (.int z2), .val (.int z3), .val (.int 1), .val (.long s_), .second, .val (.ref b5), .unset, .unset, .unset, .unset] []))
    refine own_to (fun _ kont => XS.aload X6.here hx rfl (hb hby at_34) rfl rfl kont) ?_
    show own_Ends _ _ _ _ (T6.setTop (mkF m 36 #[.val (.int z1), .val (.int z2), .val (.int z3), .val (.int 1), .val (.long s_), .second, .val (.ref b5), .unset, .unset, .unset, .unset] [(.ref b5)]))
    refine own_to (fun _ kont => XS.iloadN X6.here hx rfl (hb hby at_36) rfl kont) ?_
    show own_Ends _ _ _ _ (T6.setTop (mkF m 37 #[.val (.int z1), .val (.int z2), .val (.int z3), .val (.int 1), .val (.long s_), .second, .val (.ref b5), .unset, .unset, .unset, .unset] [(.int z3), (.ref b5)]))
    refine own_to (fun _ kont => XS.i2dS X6.here hx rfl (hb hby at_37) rfl (i2d_w _) kont) ?_
    show own_Ends _ _ _ _ (T6.setTop (mkF m 38 #[.val (.int z1), .val (.int z2), .val (.int z3), .val (.int 1), .val (.long s_), .second, .val (.ref b5), .unset, .unset, .unset, .unset] [(.double (FP.l2d (z3.toInt64))), (.ref b5)]))
    obtain ⟨cq7, kq7, q7a, q7b, q7c⟩ := isOf hZ rfl Ex6
    obtain ⟨_, _, ⟨T7, L7, k7, n7⟩, -, X7, ⟨Lc7, hQ7, l7, y7, z7⟩, st7⟩ := X6.virtualBack hx (y := oM4) (z := oM4) hown (mvT hZ (ow28 hw)) (mvT hZ (ow29 hw)) (notFace_of_selects (args := #[]) (mvT hZ (ow31 hw))) (mvT hZ (ow31 hw)) (mvT hZ (ow30 hw)) (by decide) (backOf (W := 0) (rmM1 l Z a0 hw [] b5 s_ z3 T6.heap n0 Oq6 Fx6 Fy6 hs0 hs1) hZ (ow32 hw) (ow3 hw) (by decide) (by decide)) q7a q7c (g := (mkF m 38 #[.val (.int z1), .val (.int z2), .val (.int z3), .val (.int (1 : Int32)), .val (.long s_), .second, .val (.ref b5), .unset, .unset, .unset, .unset] [(.double (FP.l2d (z3.toInt64))), (.ref b5)])) rfl (by rw [hml]; rfl) (Steps.refl _) (argsL := [(.double (FP.l2d (z3.toInt64)))]) (rest := []) (lenOf pd_0 rfl) rfl (by show 2 * 0 + _ ≤ _; exact Nat.le_of_eq rfl) (hb hby at_38) (fun _ _ => ⟨rfl, rfl, (own_le rfl), (own_le rfl)⟩)
    dsimp only [Pt.U, Pt.locs, Pt.cells, Pt.slots] at X7 l7 y7 z7 st7 hQ7
    subst l7 y7 z7
    obtain ⟨rfl, N7q, E7⟩ := hQ7
    have N7 := Fr.app N6 N7q
    refine own_tr st7 ?_
    show own_Ends _ _ _ _ (T7.setTop (mkF m 41 #[.val (.int z1), .val (.int z2), .val (.int z3), .val (.int 1), .val (.long s_), .second, .val (.ref b5), .unset, .unset, .unset, .unset] [(.double (FP.l2d (s_ * (z3.toInt64))))]))
    refine own_to (fun _ kont => XS.dstore X7.here hx rfl (hb hby at_41) rfl (l' := #[.val (.int z1), .val (.int z2), .val (.int z3), .val (.int (1 : Int32)), .val (.long s_), .second, .val (.ref b5), .val (.double (FP.l2d (s_ * (z3.toInt64)))), .second, .unset, .unset]) rfl kont) ?_
    show own_Ends _ _ _ _ (T7.setTop (mkF m 43 #[.val (.int z1), .val (.int z2), .val (.int z3), .val (.int 1), .val (.long s_), .second, .val (.ref b5), .val (.double (FP.l2d (s_ * (z3.toInt64)))), .second, .unset, .unset] []))
    refine own_to (fun _ kont => XS.iloadN X7.here hx rfl (hb hby at_43) rfl kont) ?_
    show own_Ends _ _ _ _ (T7.setTop (mkF m 44 #[.val (.int z1), .val (.int z2), .val (.int z3), .val (.int 1), .val (.long s_), .second, .val (.ref b5), .val (.double (FP.l2d (s_ * (z3.toInt64)))), .second, .unset, .unset] [(.int 1)]))
    refine own_to (fun _ kont => XS.ifNo X7.here hx rfl (hb hby at_44) rfl ((if0 _ _).trans (feq (by decide)).1) kont) ?_
    show own_Ends _ _ _ _ (T7.setTop (mkF m 47 #[.val (.int z1), .val (.int z2), .val (.int z3), .val (.int 1), .val (.long s_), .second, .val (.ref b5), .val (.double (FP.l2d (s_ * (z3.toInt64)))), .second, .unset, .unset] []))
    refine own_to (fun _ kont => XS.lload X7.here hx rfl (hb hby at_47) rfl kont) ?_
    show own_Ends _ _ _ _ (T7.setTop (mkF m 49 #[.val (.int z1), .val (.int z2), .val (.int z3), .val (.int 1), .val (.long s_), .second, .val (.ref b5), .val (.double (FP.l2d (s_ * (z3.toInt64)))), .second, .unset, .unset] [(.long s_)]))
    refine own_to (fun _ kont => XS.iloadN X7.here hx rfl (hb hby at_49) rfl kont) ?_
    show own_Ends _ _ _ _ (T7.setTop (mkF m 50 #[.val (.int z1), .val (.int z2), .val (.int z3), .val (.int 1), .val (.long s_), .second, .val (.ref b5), .val (.double (FP.l2d (s_ * (z3.toInt64)))), .second, .unset, .unset] [(.int z3), (.long s_)]))
    refine own_to (fun _ kont => XS.i2l X7.here hx rfl (hb hby at_50) rfl kont) ?_
    show own_Ends _ _ _ _ (T7.setTop (mkF m 51 #[.val (.int z1), .val (.int z2), .val (.int z3), .val (.int 1), .val (.long s_), .second, .val (.ref b5), .val (.double (FP.l2d (s_ * (z3.toInt64)))), .second, .unset, .unset] [(.long (z3.toInt64)), (.long s_)]))
    refine own_to (fun _ kont => XS.lmul X7.here hx rfl (hb hby at_51) rfl kont) ?_
    show own_Ends _ _ _ _ (T7.setTop (mkF m 52 #[.val (.int z1), .val (.int z2), .val (.int z3), .val (.int 1), .val (.long s_), .second, .val (.ref b5), .val (.double (FP.l2d (s_ * (z3.toInt64)))), .second, .unset, .unset] [(.long (s_ * (z3.toInt64)))]))
    refine own_to (fun _ kont => XS.lstore X7.here hx rfl (hb hby at_52) rfl (l' := #[.val (.int z1), .val (.int z2), .val (.int z3), .val (.int (1 : Int32)), .val (.long s_), .second, .val (.ref b5), .val (.double (FP.l2d (s_ * (z3.toInt64)))), .second, .val (.long (s_ * (z3.toInt64))), .second]) rfl kont) ?_
    show own_Ends _ _ _ _ (T7.setTop (mkF m 54 #[.val (.int z1), .val (.int z2), .val (.int z3), .val (.int 1), .val (.long s_), .second, .val (.ref b5), .val (.double (FP.l2d (s_ * (z3.toInt64)))), .second, .val (.long (s_ * (z3.toInt64))), .second] []))
    refine own_to (fun _ kont => XS.goto X7.here hx rfl (pc0 := 54) (pc' := 61) rfl (hb hby at_54) (by decide) (by decide) kont) ?_
    show own_Ends _ _ _ _ (T7.setTop (mkF m 61 #[.val (.int z1), .val (.int z2), .val (.int z3), .val (.int 1), .val (.long s_), .second, .val (.ref b5), .val (.double (FP.l2d (s_ * (z3.toInt64)))), .second, .val (.long (s_ * (z3.toInt64))), .second] []))
    refine own_to (fun _ kont => XS.dload X7.here hx rfl (hb hby at_61) rfl kont) ?_
    show own_Ends _ _ _ _ (T7.setTop (mkF m 63 #[.val (.int z1), .val (.int z2), .val (.int z3), .val (.int 1), .val (.long s_), .second, .val (.ref b5), .val (.double (FP.l2d (s_ * (z3.toInt64)))), .second, .val (.long (s_ * (z3.toInt64))), .second] [(.double (FP.l2d (s_ * (z3.toInt64))))]))
    refine own_to (fun _ kont => XS.lload X7.here hx rfl (hb hby at_63) rfl kont) ?_
    show own_Ends _ _ _ _ (T7.setTop (mkF m 65 #[.val (.int z1), .val (.int z2), .val (.int z3), .val (.int 1), .val (.long s_), .second, .val (.ref b5), .val (.double (FP.l2d (s_ * (z3.toInt64)))), .second, .val (.long (s_ * (z3.toInt64))), .second] [(.long (s_ * (z3.toInt64))), (.double (FP.l2d (s_ * (z3.toInt64))))]))
    refine own_to (fun _ kont => XS.l2dS X7.here hx rfl (hb hby at_65) rfl rfl kont) ?_
    show own_Ends _ _ _ _ (T7.setTop (mkF m 66 #[.val (.int z1), .val (.int z2), .val (.int z3), .val (.int 1), .val (.long s_), .second, .val (.ref b5), .val (.double (FP.l2d (s_ * (z3.toInt64)))), .second, .val (.long (s_ * (z3.toInt64))), .second] [(.double (FP.l2d (s_ * (z3.toInt64)))), (.double (FP.l2d (s_ * (z3.toInt64))))]))
    refine own_to (fun _ kont => XS.dcmpS X7.here hx rfl (v := (0 : Int32)) (hb hby at_66) rfl (dcmpV_self (nn_w rfl) .l) kont) ?_
    show own_Ends _ _ _ _ (T7.setTop (mkF m 67 #[.val (.int z1), .val (.int z2), .val (.int z3), .val (.int 1), .val (.long s_), .second, .val (.ref b5), .val (.double (FP.l2d (s_ * (z3.toInt64)))), .second, .val (.long (s_ * (z3.toInt64))), .second] [(.int 0)]))
    refine own_to (fun _ kont => XS.ifNo X7.here hx rfl (hb hby at_67) rfl ((if0 _ _).trans (teq (by decide)).2) kont) ?_
    show own_Ends _ _ _ _ (T7.setTop (mkF m 70 #[.val (.int z1), .val (.int z2), .val (.int z3), .val (.int 1), .val (.long s_), .second, .val (.ref b5), .val (.double (FP.l2d (s_ * (z3.toInt64)))), .second, .val (.long (s_ * (z3.toInt64))), .second] []))
    refine own_to (fun _ kont => XS.iconst X7.here hx rfl (hb hby at_70) kont) ?_
    show own_Ends _ _ _ _ (T7.setTop (mkF m 71 #[.val (.int z1), .val (.int z2), .val (.int z3), .val (.int 1), .val (.long s_), .second, .val (.ref b5), .val (.double (FP.l2d (s_ * (z3.toInt64)))), .second, .val (.long (s_ * (z3.toInt64))), .second] [(.int 1)]))
    refine own_to (fun _ kont => XS.goto X7.here hx rfl (pc0 := 71) (pc' := 75) rfl (hb hby at_71) (by decide) (by decide) kont) ?_
    show own_Ends _ _ _ _ (T7.setTop (mkF m 75 #[.val (.int z1), .val (.int z2), .val (.int z3), .val (.int 1), .val (.long s_), .second, .val (.ref b5), .val (.double (FP.l2d (s_ * (z3.toInt64)))), .second, .val (.long (s_ * (z3.toInt64))), .second] [(.int 1)]))
    refine own_leave X7 (v := some (.int (1 : Int32))) (fun h => by rw [Bd.returns] at h; cases h) ?_ (by decide) (by decide) (fun fs hr => retN X7 hx (t := .boolean) Bd.returns (by simp) (hb hby at_75) hr)
    show Q_rm0 Z z1 z2 z3 h0 n0 _ T7.heap _
    rw [E7]
    exact ⟨rfl, N7⟩
set_option maxRecDepth 65536 in
set_option maxHeartbeats 40000000 in
theorem comes_1 {Post : Tables → Env → Array Value → State → Outcome → State → Prop} (hpost : ∀ tb e args s v u, (limb_1_1.after args s (.returned v) u = true ∧ limb_1_2.after args s (.returned v) u = true ∧ True) → FrameEnd s (.returned v) u (Jvm.fieldLocs frame_1_writes args s ++ Jvm.arrayLocs frame_1_arrays args s ++ Jvm.staticLocs frame_1_statics s) 16 128 → Post tb e args s (.returned v) u) :
    ArmFor flags0 classFile x code maxLocals ret World_1 tables_1 room_1 Calls_1 rest_1 Pre_1 Post := by
  intro l hfl _ _ p e ha hc hk s m args below hf hA hF happ hP
  obtain ⟨hcalls, hrest, hpre⟩ := hP
  obtain ⟨-, -, -, hnamed, -, -, -, hat⟩ := (Spec.applies_iff hf).mp happ
  obtain ⟨hg, hn⟩ := and_e (Cond.before_iff.mp (show (Jvm.Cond.and given_1 narrow_1).before args s = true from hpre))
  obtain ⟨gc0, hg0⟩ := and_e hg
  obtain ⟨gc1, hg1⟩ := and_e hg0
  obtain ⟨gc2, hg2⟩ := and_e hg1
  have gc3 := hg2
  have nc0 := hn
  obtain ⟨w0, w1, w2, rfl⟩ : ∃ w0 w1 w2 : Value, args = #[w0, w1, w2] := by
    have hs : args.size = 3 := by simpa [Cond.value, given_1] using gc0
    obtain ⟨L⟩ := args
    match L, hs with
    | [w0, w1, w2], _ => exact ⟨w0, w1, w2, rfl⟩
  have hw := fun d (hd : d ∈ tables_1) => atoms_spec (ws := Jvm.Cond.code x code maxLocals ret :: tables_1) hat d (List.mem_cons_of_mem _ hd)
  have hfit : Fit s := fun {y c} hc i hi => by
    obtain ⟨ha, rfl⟩ := Array.getElem?_eq_some_iff.mp hc
    have q := List.all_eq_true.mp ((Array.all_eq_true_iff_forall_mem.mp hF) _ (Array.getElem_mem ha)) i (List.mem_range.mpr hi)
    simpa [Array.getElem?_eq_getElem hi] using q
  obtain ⟨i0, ei0⟩ := is_v gc1
  obtain rfl : w0 = (.int i0) := Option.some.inj ei0
  obtain ⟨i1, ei1⟩ := is_v gc2
  obtain rfl : w1 = (.int i1) := Option.some.inj ei1
  obtain ⟨i2, ei2⟩ := is_v gc3
  obtain rfl : w2 = (.int i2) := Option.some.inj ei2
  obtain ⟨n, o, h1, h2, h3, _, L, rfl, ⟨rfl, N⟩, hq⟩ := rm0 l s _ hw tables_1 i0 i1 i2  s.heap s.heap.size (Old.start s)  p e ha hc hk s m _ below hf ((Spec.applies_iff_loose hf).mp happ).1 ⟨rfl, State.Warmed39.refl s, rfl⟩ trivial
  refine ⟨n, _, h1, h2, h3, hpost _ _ _ _ _ _ ⟨Cond.after_iff.mpr rfl, Cond.after_iff.mpr (eq_i res_at (Term.int_eval (1)) rfl), trivial⟩ ⟨hq.1, hq.2.1, (hq.2.2.sift fun y hy => Or.inr (N y hy)).mono (by decide) (by decide)⟩⟩
theorem main_1_1 : Claimed_1_1 := comes_1 fun _ _ _ _ _ _ h hF => ⟨h.1, hF⟩
theorem main_1_2 : Claimed_1_2 := comes_1 fun _ _ _ _ _ _ h hF => ⟨h.2.1, hF⟩
end Jvm.Pilot.@@N@@
namespace Jvm.Pilot.@@N@@
open Jvm Jvm.ClassFile Sem Op Lib Jvm.Free Jvm.Stand Jvm.Pilot.@@N@@.Jvm.D
/-! MADE BY PROGRAM (witnessworld.py) out of the Statement's table words and the real class files: 16 classes; the members and pool entries that the words name. The judged class is class 1, her method 1. -/
namespace start1
open Jvm.ClassFile
def u (s : String) : CpInfo := .utf8 (stringToUtf16 s)
/-- a pool by its gaps: so many unusable entries, then the entry; so many at the end -/
def gap : Nat → List CpInfo → List CpInfo
  | 0, r => r
  | n + 1, r => .unusable :: gap n r
def poolList (es : List (Nat × CpInfo)) (last : Nat) : List CpInfo := es.foldr (fun e r => gap e.1 (e.2 :: r)) (gap last [])
def pool (es : List (Nat × CpInfo)) (last : Nat) : Array CpInfo := ⟨poolList es last⟩
def fileOf (pool : Array CpInfo) (this : Nat) (attrs : Array Attribute := #[]) (ms : Array MethodInfo := #[]) (fl : Nat := 33) (sup : Nat := 0) (ifs : Array Nat := #[]) (fds : Array FieldInfo := #[]) : ClassFile where
  minorVersion := 0
  majorVersion := 65
  constantPool := pool
  accessFlags := fl
  thisClass := this
  superClass := sup
  interfaces := ifs
  fields := fds
  methods := ms
  attributes := attrs
def plain (name : String) (sup : Option ClassId) : Class where
  name := name
  kind := .ordinary
  loader := none
  accessFlags := 33
  super := sup
  interfaces := #[]
  cf := none
  fields := #[]
  methods := #[]
  instanceTypes := #[]
  staticTypes := #[]
  resolved := #[]
  callSites := []
  init := .initialized
  statics := none
  mirror := none

def pool0 : Array CpInfo := pool [(5, u "<init>"), (0, u "()V"), (1, .class_ 10), (1, u "java/lang/Object")] 113

def k0c0 : Code := { maxStack := 0, maxLocals := 1, code := object_method_1_code, exceptionTable := #[], attributes := #[] }
def k0m0 : Method := { name := "<init>", desc := "()V", sig := { parameters := [], returnType := none }, accessFlags := 1, code := some k0c0 }
/-- java/lang/Object -/
def k0 : Class := { plain "java/lang/Object" none with
  accessFlags := 33
  interfaces := #[]
  cf := some (fileOf pool0 8 #[] #[{ accessFlags := 1, nameIndex := 5, descriptorIndex := 6, attributes := #[] }] 33 0 #[] #[])
  fields := #[]
  methods := #[k0m0]
  instanceTypes := #[]
  staticTypes := #[]
  resolved := Array.replicate 124 none
  statics := none }

def pool1 : Array CpInfo := pool [(2, .class_ 4), (1, u "java/lang/Object"), (0, u "<init>"), (0, u "()V"), (0, .integer 1048575), (0, .class_ 9), (0, u "com/example/latmere/latmere/spatial/MapUnit"), (0, .methodref 8 11), (0, .nameAndType 5 12), (0, u "(ZD)V"), (0, .methodref 8 14), (0, .nameAndType 15 16), (0, u "metres"), (0, u "(D)D"), (0, .class_ 18), (0, u "com/example/latmere/latmere/spatial/MapUnitMetresPinLaw"), (2, u "law"), (0, u "(III)Z")] 3

def k1m0 : Method := { name := "<init>", desc := "()V", sig := { parameters := [], returnType := none }, accessFlags := 1, code := none }
def k1c1 : Code := { maxStack := 5, maxLocals := 11, code := code, exceptionTable := #[], attributes := #[] }
def k1m1 : Method := { name := "law", desc := "(III)Z", sig := { parameters := [.int, .int, .int], returnType := some .boolean }, accessFlags := 9, code := some k1c1 }
/-- com/example/latmere/latmere/spatial/MapUnitMetresPinLaw -/
def k1 : Class := { plain "com/example/latmere/latmere/spatial/MapUnitMetresPinLaw" (some 0) with
  accessFlags := 49
  interfaces := #[]
  cf := some (fileOf pool1 17 #[] #[{ accessFlags := 1, nameIndex := 5, descriptorIndex := 6, attributes := #[] }, { accessFlags := 9, nameIndex := 21, descriptorIndex := 22, attributes := #[] }] 49 2 #[] #[])
  fields := #[]
  methods := #[k1m0, k1m1]
  instanceTypes := #[]
  staticTypes := #[]
  resolved := Array.replicate 26 none
  statics := none }

def pool2 : Array CpInfo := pool [(1, .methodref 2 3), (0, .class_ 4), (0, .nameAndType 5 6), (0, u "java/lang/Object"), (0, u "<init>"), (0, u "()V"), (0, .class_ 8), (0, u "java/lang/Record")] 13

def k2c0 : Code := { maxStack := 1, maxLocals := 1, code := jdk_30_method_1_code, exceptionTable := #[], attributes := #[] }
def k2m0 : Method := { name := "<init>", desc := "()V", sig := { parameters := [], returnType := none }, accessFlags := 4, code := some k2c0 }
/-- java/lang/Record -/
def k2 : Class := { plain "java/lang/Record" (some 0) with
  accessFlags := 1057
  interfaces := #[]
  cf := some (fileOf pool2 7 #[] #[{ accessFlags := 4, nameIndex := 5, descriptorIndex := 6, attributes := #[] }] 1057 2 #[] #[])
  fields := #[]
  methods := #[k2m0]
  instanceTypes := #[]
  staticTypes := #[]
  resolved := Array.replicate 22 none
  statics := none }

def pool3 : Array CpInfo := pool [(1, .methodref 2 3), (0, .class_ 4), (0, .nameAndType 5 6), (0, u "java/lang/Record"), (0, u "<init>"), (0, u "()V"), (0, .methodref 8 9), (0, .class_ 10), (0, .nameAndType 11 12), (0, u "java/lang/Double"), (0, u "isFinite"), (0, u "(D)Z"), (9, .fieldref 23 24), (0, .class_ 25), (0, .nameAndType 26 27), (0, u "com/example/latmere/latmere/spatial/MapUnit"), (0, u "angular"), (0, u "Z"), (0, .fieldref 23 29), (0, .nameAndType 30 31), (0, u "size"), (0, u "D"), (14, u "(ZD)V"), (2, u "DEGREE"), (0, u "Lcom/example/latmere/latmere/spatial/MapUnit;"), (4, u "metres"), (0, u "(D)D")] 35

def k3c0 : Code := { maxStack := 4, maxLocals := 4, code := prog_36_method_1_code, exceptionTable := #[], attributes := #[] }
def k3m0 : Method := { name := "<init>", desc := "(ZD)V", sig := { parameters := [.boolean, .double], returnType := none }, accessFlags := 1, code := some k3c0 }
def k3c1 : Code := { maxStack := 4, maxLocals := 3, code := prog_36_method_2_code, exceptionTable := #[], attributes := #[] }
def k3m1 : Method := { name := "metres", desc := "(D)D", sig := { parameters := [.double], returnType := some .double }, accessFlags := 1, code := some k3c1 }
/-- com/example/latmere/latmere/spatial/MapUnit -/
def k3 : Class := { plain "com/example/latmere/latmere/spatial/MapUnit" (some 2) with
  accessFlags := 49
  interfaces := #[]
  cf := some (fileOf pool3 23 #[] #[{ accessFlags := 1, nameIndex := 5, descriptorIndex := 46, attributes := #[] }, { accessFlags := 1, nameIndex := 55, descriptorIndex := 56, attributes := #[] }] 49 2 #[] #[{ accessFlags := 18, nameIndex := 26, descriptorIndex := 27, attributes := #[] }, { accessFlags := 18, nameIndex := 30, descriptorIndex := 31, attributes := #[] }, { accessFlags := 25, nameIndex := 49, descriptorIndex := 50, attributes := #[] }])
  fields := #[{ name := "angular", type := .boolean, accessFlags := 18, slot := 0, constantValue := 0 }, { name := "size", type := .double, accessFlags := 18, slot := 1, constantValue := 0 }, { name := "DEGREE", type := (.object "com/example/latmere/latmere/spatial/MapUnit"), accessFlags := 25, slot := 0, constantValue := 0 }]
  methods := #[k3m0, k3m1]
  instanceTypes := #[.boolean, .double]
  staticTypes := #[(.object "com/example/latmere/latmere/spatial/MapUnit")]
  resolved := Array.replicate 92 none
  statics := none }

def pool4 : Array CpInfo := pool [(1, .class_ 2), (0, u "java/io/Serializable"), (0, .class_ 4), (0, u "java/lang/Object")] 2

/-- java/io/Serializable -/
def k4 : Class := { plain "java/io/Serializable" (some 0) with
  accessFlags := 1537
  interfaces := #[]
  cf := some (fileOf pool4 1 #[] #[] 1537 3 #[] #[])
  fields := #[]
  methods := #[]
  instanceTypes := #[]
  staticTypes := #[]
  resolved := Array.replicate 7 none
  statics := none }

def pool5 : Array CpInfo := pool [(2, .class_ 4), (1, u "java/lang/Object"), (0, u "<init>"), (0, u "()V"), (1, .class_ 10), (1, u "java/lang/Number"), (2, .class_ 14), (0, u "java/io/Serializable"), (0, u "serialVersionUID"), (0, u "J")] 20

def k5m0 : Method := { name := "<init>", desc := "()V", sig := { parameters := [], returnType := none }, accessFlags := 1, code := none }
/-- java/lang/Number -/
def k5 : Class := { plain "java/lang/Number" (some 0) with
  accessFlags := 1057
  interfaces := #[4]
  cf := some (fileOf pool5 8 #[] #[{ accessFlags := 1, nameIndex := 5, descriptorIndex := 6, attributes := #[] }] 1057 2 #[13] #[{ accessFlags := 26, nameIndex := 15, descriptorIndex := 16, attributes := #[] }])
  fields := #[{ name := "serialVersionUID", type := .long, accessFlags := 26, slot := 0, constantValue := 0 }]
  methods := #[k5m0]
  instanceTypes := #[]
  staticTypes := #[.long]
  resolved := Array.replicate 37 none
  statics := none }

def pool6 : Array CpInfo := pool [(1, .class_ 2), (0, u "java/lang/Comparable"), (0, .class_ 4), (0, u "java/lang/Object")] 7

/-- java/lang/Comparable -/
def k6 : Class := { plain "java/lang/Comparable" (some 0) with
  accessFlags := 1537
  interfaces := #[]
  cf := some (fileOf pool6 1 #[] #[] 1537 3 #[] #[])
  fields := #[]
  methods := #[]
  instanceTypes := #[]
  staticTypes := #[]
  resolved := Array.replicate 12 none
  statics := none }

def pool7 : Array CpInfo := pool [(1, .class_ 2), (0, u "java/lang/constant/Constable"), (0, .class_ 4), (0, u "java/lang/Object")] 6

/-- java/lang/constant/Constable -/
def k7 : Class := { plain "java/lang/constant/Constable" (some 0) with
  accessFlags := 1537
  interfaces := #[]
  cf := some (fileOf pool7 1 #[] #[] 1537 3 #[] #[])
  fields := #[]
  methods := #[]
  instanceTypes := #[]
  staticTypes := #[]
  resolved := Array.replicate 11 none
  statics := none }

def pool8 : Array CpInfo := pool [(1, .class_ 2), (0, u "java/lang/constant/ConstantDesc"), (0, .class_ 4), (0, u "java/lang/Object")] 32

/-- java/lang/constant/ConstantDesc -/
def k8 : Class := { plain "java/lang/constant/ConstantDesc" (some 0) with
  accessFlags := 1537
  interfaces := #[]
  cf := some (fileOf pool8 1 #[] #[] 1537 3 #[] #[])
  fields := #[]
  methods := #[]
  instanceTypes := #[]
  staticTypes := #[]
  resolved := Array.replicate 37 none
  statics := none }

def pool9 : Array CpInfo := pool [(1, .class_ 2), (0, u "java/lang/Double"), (10, u "isFinite"), (0, u "(D)Z"), (8, .class_ 25), (1, u "java/lang/Math"), (12, .methodref 23 39), (0, .nameAndType 40 41), (0, u "abs"), (0, u "(D)D"), (69, .double 9218868437227405311), (2, .class_ 116), (1, u "java/lang/Number"), (3, u "value"), (0, u "D"), (51, u "TYPE"), (0, u "Ljava/lang/Class;"), (0, .class_ 176), (0, u "java/lang/Comparable"), (0, .class_ 178), (0, u "java/lang/constant/Constable"), (0, .class_ 180), (0, u "java/lang/constant/ConstantDesc"), (0, u "POSITIVE_INFINITY"), (3, u "NEGATIVE_INFINITY"), (2, u "NaN"), (2, u "MAX_VALUE"), (0, u "MIN_NORMAL"), (0, u "MIN_VALUE"), (2, u "SIZE"), (0, u "I"), (1, u "PRECISION"), (1, u "MAX_EXPONENT"), (1, u "MIN_EXPONENT"), (1, u "BYTES"), (3, u "serialVersionUID"), (0, u "J")] 79

def k9c0 : Code := { maxStack := 4, maxLocals := 2, code := jdk_117_method_8_code, exceptionTable := #[], attributes := #[] }
def k9m0 : Method := { name := "isFinite", desc := "(D)Z", sig := { parameters := [.double], returnType := some .boolean }, accessFlags := 9, code := some k9c0 }
/-- java/lang/Double -/
def k9 : Class := { plain "java/lang/Double" (some 5) with
  accessFlags := 49
  interfaces := #[6, 7, 8]
  cf := some (fileOf pool9 1 #[] #[{ accessFlags := 9, nameIndex := 13, descriptorIndex := 14, attributes := #[] }] 49 114 #[175, 177, 179] #[{ accessFlags := 25, nameIndex := 181, descriptorIndex := 121, attributes := #[] }, { accessFlags := 25, nameIndex := 185, descriptorIndex := 121, attributes := #[] }, { accessFlags := 25, nameIndex := 188, descriptorIndex := 121, attributes := #[] }, { accessFlags := 25, nameIndex := 191, descriptorIndex := 121, attributes := #[] }, { accessFlags := 25, nameIndex := 192, descriptorIndex := 121, attributes := #[] }, { accessFlags := 25, nameIndex := 193, descriptorIndex := 121, attributes := #[] }, { accessFlags := 25, nameIndex := 196, descriptorIndex := 197, attributes := #[] }, { accessFlags := 25, nameIndex := 199, descriptorIndex := 197, attributes := #[] }, { accessFlags := 25, nameIndex := 201, descriptorIndex := 197, attributes := #[] }, { accessFlags := 25, nameIndex := 203, descriptorIndex := 197, attributes := #[] }, { accessFlags := 25, nameIndex := 205, descriptorIndex := 197, attributes := #[] }, { accessFlags := 25, nameIndex := 173, descriptorIndex := 174, attributes := #[] }, { accessFlags := 18, nameIndex := 120, descriptorIndex := 121, attributes := #[] }, { accessFlags := 26, nameIndex := 209, descriptorIndex := 210, attributes := #[] }])
  fields := #[{ name := "POSITIVE_INFINITY", type := .double, accessFlags := 25, slot := 0, constantValue := 0 }, { name := "NEGATIVE_INFINITY", type := .double, accessFlags := 25, slot := 1, constantValue := 0 }, { name := "NaN", type := .double, accessFlags := 25, slot := 2, constantValue := 0 }, { name := "MAX_VALUE", type := .double, accessFlags := 25, slot := 3, constantValue := 0 }, { name := "MIN_NORMAL", type := .double, accessFlags := 25, slot := 4, constantValue := 0 }, { name := "MIN_VALUE", type := .double, accessFlags := 25, slot := 5, constantValue := 0 }, { name := "SIZE", type := .int, accessFlags := 25, slot := 6, constantValue := 0 }, { name := "PRECISION", type := .int, accessFlags := 25, slot := 7, constantValue := 0 }, { name := "MAX_EXPONENT", type := .int, accessFlags := 25, slot := 8, constantValue := 0 }, { name := "MIN_EXPONENT", type := .int, accessFlags := 25, slot := 9, constantValue := 0 }, { name := "BYTES", type := .int, accessFlags := 25, slot := 10, constantValue := 0 }, { name := "TYPE", type := (.object "java/lang/Class"), accessFlags := 25, slot := 11, constantValue := 0 }, { name := "value", type := .double, accessFlags := 18, slot := 0, constantValue := 0 }, { name := "serialVersionUID", type := .long, accessFlags := 26, slot := 12, constantValue := 0 }]
  methods := #[k9m0]
  instanceTypes := #[.double]
  staticTypes := #[.double, .double, .double, .double, .double, .double, .int, .int, .int, .int, .int, (.object "java/lang/Class"), .long]
  resolved := Array.replicate 290 none
  statics := none }

def pool10 : Array CpInfo := pool [(1, .class_ 2), (0, u "java/lang/Math"), (1, .class_ 6), (1, u "java/lang/Object"), (0, u "<init>"), (0, u "()V"), (5, u "(D)D"), (83, .class_ 100), (1, u "java/lang/Math$RandomNumberGeneratorHolder"), (23, u "abs"), (47, u "negativeZeroFloatBits"), (0, u "J"), (2, u "negativeZeroDoubleBits"), (68, u "$assertionsDisabled"), (0, u "Z"), (91, u "twoToTheDoubleScaleDown"), (0, u "D"), (4, u "twoToTheDoubleScaleUp"), (9, u "E"), (3, u "PI"), (2, u "TAU"), (2, u "DEGREES_TO_RADIANS"), (0, u "RADIANS_TO_DEGREES")] 94

def k10m0 : Method := { name := "<init>", desc := "()V", sig := { parameters := [], returnType := none }, accessFlags := 2, code := none }
def k10c1 : Code := { maxStack := 4, maxLocals := 2, code := jdk_29_method_64_code, exceptionTable := #[], attributes := #[] }
def k10m1 : Method := { name := "abs", desc := "(D)D", sig := { parameters := [.double], returnType := some .double }, accessFlags := 9, code := some k10c1 }
/-- java/lang/Math -/
def k10 : Class := { plain "java/lang/Math" (some 0) with
  accessFlags := 49
  interfaces := #[]
  cf := some (fileOf pool10 1 #[.nestMembers #[98]] #[{ accessFlags := 2, nameIndex := 7, descriptorIndex := 8, attributes := #[] }, { accessFlags := 9, nameIndex := 124, descriptorIndex := 14, attributes := #[] }] 49 4 #[] #[{ accessFlags := 25, nameIndex := 354, descriptorIndex := 339, attributes := #[] }, { accessFlags := 25, nameIndex := 358, descriptorIndex := 339, attributes := #[] }, { accessFlags := 25, nameIndex := 361, descriptorIndex := 339, attributes := #[] }, { accessFlags := 26, nameIndex := 364, descriptorIndex := 339, attributes := #[] }, { accessFlags := 26, nameIndex := 365, descriptorIndex := 339, attributes := #[] }, { accessFlags := 26, nameIndex := 172, descriptorIndex := 173, attributes := #[] }, { accessFlags := 26, nameIndex := 176, descriptorIndex := 173, attributes := #[] }, { accessFlags := 8, nameIndex := 344, descriptorIndex := 339, attributes := #[] }, { accessFlags := 8, nameIndex := 338, descriptorIndex := 339, attributes := #[] }, { accessFlags := 4120, nameIndex := 245, descriptorIndex := 246, attributes := #[] }])
  fields := #[{ name := "E", type := .double, accessFlags := 25, slot := 0, constantValue := 0 }, { name := "PI", type := .double, accessFlags := 25, slot := 1, constantValue := 0 }, { name := "TAU", type := .double, accessFlags := 25, slot := 2, constantValue := 0 }, { name := "DEGREES_TO_RADIANS", type := .double, accessFlags := 26, slot := 3, constantValue := 0 }, { name := "RADIANS_TO_DEGREES", type := .double, accessFlags := 26, slot := 4, constantValue := 0 }, { name := "negativeZeroFloatBits", type := .long, accessFlags := 26, slot := 5, constantValue := 0 }, { name := "negativeZeroDoubleBits", type := .long, accessFlags := 26, slot := 6, constantValue := 0 }, { name := "twoToTheDoubleScaleUp", type := .double, accessFlags := 8, slot := 7, constantValue := 0 }, { name := "twoToTheDoubleScaleDown", type := .double, accessFlags := 8, slot := 8, constantValue := 0 }, { name := "$assertionsDisabled", type := .boolean, accessFlags := 4120, slot := 9, constantValue := 0 }]
  methods := #[k10m0, k10m1]
  instanceTypes := #[]
  staticTypes := #[.double, .double, .double, .double, .double, .long, .long, .double, .double, .boolean]
  resolved := Array.replicate 460 none
  statics := none }

def pool11 : Array CpInfo := pool [(1, u "java/lang/Cloneable"), (0, .class_ 1), (0, u "java/lang/Object"), (0, .class_ 3)] 3

/-- java/lang/Cloneable -/
def k11 : Class := { plain "java/lang/Cloneable" (some 0) with
  accessFlags := 1537
  interfaces := #[]
  cf := some (fileOf pool11 2 #[] #[] 1537 4 #[] #[])
  fields := #[]
  methods := #[]
  instanceTypes := #[]
  staticTypes := #[]
  resolved := Array.replicate 8 none
  statics := none }

/-- the primitive byte -/
def k12 : Class := { plain "byte" none with kind := .primitive 'B', accessFlags := 0x411 }
/-- [B -/
def k13 : Class := { plain "[B" (some 0) with kind := .array 12 .byte, interfaces := #[11, 4], accessFlags := 1041 }

/-- the primitive int -/
def k14 : Class := { plain "int" none with kind := .primitive 'I', accessFlags := 0x411 }
/-- [I -/
def k15 : Class := { plain "[I" (some 0) with kind := .array 14 .int, interfaces := #[11, 4], accessFlags := 1041 }

def heap : Heap := #[]
def classes : Array Class := #[k0, k1, k2, k3, k4, k5, k6, k7, k8, k9, k10, k11, k12, k13, k14, k15]
def interned : List (Array UInt16 × Addr) := []
def slotsUsed : Nat := 0
def theMethod : MethodId := ⟨1, 1⟩
def args0 : Array Value := #[.int 5, .int 6, .int 7]
def aboutOver (below : List Frame) : State where
  vm := { classes := classes, interned := interned.toArray }
  heap := heap
  slotsUsed := slotsUsed
  threads := #[{ frames := .invoking theMethod args0 :: below }]
def below0 : List Frame := [.native { method := ⟨0, 0⟩, args := #[] }]
def about1 : State := aboutOver below0
def p0 : Program := .bare "" "" ""
def e0 : Env := launch0.env 0 0 0
theorem w_frames : about1.frames = Frame.invoking theMethod args0 :: below0 := rfl
set_option maxRecDepth 65536 in
theorem w_args : argsFit about1.vm theMethod args0 = true := by decide +kernel
set_option maxRecDepth 65536 in
theorem w_heap : heapFits about1 = true := by decide +kernel
set_option maxRecDepth 65536 in
theorem w_runnable : about1.curStatus? = some .runnable := by decide +kernel
set_option maxRecDepth 65536 in
theorem w_alone : about1.alone = true := by decide +kernel
set_option maxRecDepth 65536 in
theorem w_named : about1.methodNamed? x = some theMethod := by decide +kernel
set_option maxRecDepth 65536 in
theorem w_hears : about1.hears theMethod below0 = true := by decide +kernel
set_option maxRecDepth 65536 in
theorem w_ripe : about1.ripe theMethod args0 below0 = true := by decide +kernel
theorem w_running : about1.status = .running := rfl
set_option maxRecDepth 65536 in
theorem w_room : about1.hasRoom e0.platform room_1 = true :=
  launch0.hasRoom_least _ room_1 (by decide +kernel) (by decide +kernel) (by decide +kernel) (by decide +kernel) (by decide +kernel) (by decide +kernel)
theorem allAtoms_all (ts : List Jvm.Cond) (a : Array Jvm.Value) (st : Jvm.State) : (allAtoms ts).before a st = ts.all (fun c => c.before a st) := by
  induction ts with
  | nil => rfl
  | cons c t ih =>
    show (Jvm.Cond.and c (allAtoms t)).before a st = _
    rw [Jvm.Cond.before_and, ih, List.all_cons]
def words1 : List Jvm.Cond := Jvm.Cond.code x code maxLocals ret :: tables_1
/-- a 'code' word, met by the world's own term for the bytes: nothing is compared byte by byte -/
theorem code_word {y : MethodName} {bytes : ByteArray} {mx : Nat} {rt : Option FieldType} {a : Array Value} {s : State} {m : MethodId} {meth : Method} {c : Code} (h1 : s.methodNamed? y = some m) (h2 : s.vm.method? m = some meth) (h3 : meth.code = some c) (h4 : c.code = bytes)
    (h5 : (c.maxLocals == mx && c.exceptionTable.isEmpty && decide (c.maxStack ≤ mostOperands) && decide (meth.sig.returnType = rt) && !meth.locks && decide (parseMethodDescriptor y.desc = some meth.sig)) = true) : (Jvm.Cond.code y bytes mx rt).before a s = true := by
  simp only [Bool.and_eq_true, beq_iff_eq, Bool.not_eq_true', decide_eq_true_eq] at h5
  obtain ⟨⟨⟨⟨⟨g1, g2⟩, g3⟩, g4⟩, g5⟩, g6⟩ := h5
  simp [Cond.before, Cond.holds, Cond.value, h1, h2, h3, h4, g1, g2, g3, g4, g5, g6]
def isCode : Jvm.Cond → Bool
  | .code _ _ _ _ => true
  | _ => false
theorem all_split {L : List Jvm.Cond} {P : Jvm.Cond → Bool} (h1 : L.all (fun c => isCode c || P c) = true) (h2 : ∀ c ∈ L.filter isCode, P c = true) : L.all P = true := by
  refine List.all_eq_true.mpr fun c hc => ?_
  have h := List.all_eq_true.mp h1 c hc
  rcases Bool.eq_false_or_eq_true (isCode c) with hi | hi
  · exact h2 c (List.mem_filter.mpr ⟨hc, hi⟩)
  · simpa [hi] using h
set_option maxRecDepth 65536 in
theorem w_c0 : (Jvm.Cond.code x code maxLocals ret).before args0 about1 = true := code_word (m := ⟨1, 1⟩) (meth := k1m1) (c := k1c1) (by decide +kernel) rfl rfl rfl (by decide +kernel)
set_option maxRecDepth 65536 in
theorem w_c1 : (Jvm.Cond.code ({ cls := "com/example/latmere/latmere/spatial/MapUnit", name := "<init>", desc := "(ZD)V" } : Jvm.MethodName) prog_36_method_1_code (4 : Nat) (Option.none : Option Jvm.ClassFile.FieldType)).before args0 about1 = true := code_word (m := ⟨3, 0⟩) (meth := k3m0) (c := k3c0) (by decide +kernel) rfl rfl rfl (by decide +kernel)
set_option maxRecDepth 65536 in
theorem w_c2 : (Jvm.Cond.code ({ cls := "java/lang/Record", name := "<init>", desc := "()V" } : Jvm.MethodName) jdk_30_method_1_code (1 : Nat) (Option.none : Option Jvm.ClassFile.FieldType)).before args0 about1 = true := code_word (m := ⟨2, 0⟩) (meth := k2m0) (c := k2c0) (by decide +kernel) rfl rfl rfl (by decide +kernel)
set_option maxRecDepth 65536 in
theorem w_c3 : (Jvm.Cond.code ({ cls := "java/lang/Object", name := "<init>", desc := "()V" } : Jvm.MethodName) object_method_1_code (1 : Nat) (Option.none : Option Jvm.ClassFile.FieldType)).before args0 about1 = true := code_word (m := ⟨0, 0⟩) (meth := k0m0) (c := k0c0) (by decide +kernel) rfl rfl rfl (by decide +kernel)
set_option maxRecDepth 65536 in
theorem w_c4 : (Jvm.Cond.code ({ cls := "java/lang/Double", name := "isFinite", desc := "(D)Z" } : Jvm.MethodName) jdk_117_method_8_code (2 : Nat) (Option.some Jvm.ClassFile.FieldType.boolean)).before args0 about1 = true := code_word (m := ⟨9, 0⟩) (meth := k9m0) (c := k9c0) (by decide +kernel) rfl rfl rfl (by decide +kernel)
set_option maxRecDepth 65536 in
theorem w_c5 : (Jvm.Cond.code ({ cls := "java/lang/Math", name := "abs", desc := "(D)D" } : Jvm.MethodName) jdk_29_method_64_code (2 : Nat) (Option.some Jvm.ClassFile.FieldType.double)).before args0 about1 = true := code_word (m := ⟨10, 1⟩) (meth := k10m1) (c := k10c1) (by decide +kernel) rfl rfl rfl (by decide +kernel)
set_option maxRecDepth 65536 in
theorem w_c6 : (Jvm.Cond.code ({ cls := "com/example/latmere/latmere/spatial/MapUnit", name := "metres", desc := "(D)D" } : Jvm.MethodName) prog_36_method_2_code (3 : Nat) (Option.some Jvm.ClassFile.FieldType.double)).before args0 about1 = true := code_word (m := ⟨3, 1⟩) (meth := k3m1) (c := k3c1) (by decide +kernel) rfl rfl rfl (by decide +kernel)
def codes1 : List Jvm.Cond := [Jvm.Cond.code x code maxLocals ret, Jvm.Cond.code ({ cls := "com/example/latmere/latmere/spatial/MapUnit", name := "<init>", desc := "(ZD)V" } : Jvm.MethodName) prog_36_method_1_code (4 : Nat) (Option.none : Option Jvm.ClassFile.FieldType), Jvm.Cond.code ({ cls := "java/lang/Record", name := "<init>", desc := "()V" } : Jvm.MethodName) jdk_30_method_1_code (1 : Nat) (Option.none : Option Jvm.ClassFile.FieldType), Jvm.Cond.code ({ cls := "java/lang/Object", name := "<init>", desc := "()V" } : Jvm.MethodName) object_method_1_code (1 : Nat) (Option.none : Option Jvm.ClassFile.FieldType), Jvm.Cond.code ({ cls := "java/lang/Double", name := "isFinite", desc := "(D)Z" } : Jvm.MethodName) jdk_117_method_8_code (2 : Nat) (Option.some Jvm.ClassFile.FieldType.boolean), Jvm.Cond.code ({ cls := "java/lang/Math", name := "abs", desc := "(D)D" } : Jvm.MethodName) jdk_29_method_64_code (2 : Nat) (Option.some Jvm.ClassFile.FieldType.double), Jvm.Cond.code ({ cls := "com/example/latmere/latmere/spatial/MapUnit", name := "metres", desc := "(D)D" } : Jvm.MethodName) prog_36_method_2_code (3 : Nat) (Option.some Jvm.ClassFile.FieldType.double)]
set_option maxRecDepth 65536 in
theorem codes_eq : words1.filter isCode = codes1 := rfl
theorem w_codes : ∀ c ∈ words1.filter isCode, c.before args0 about1 = true := by
  rw [codes_eq]
  intro c hc
  simp only [codes1, List.mem_cons, List.not_mem_nil, or_false] at hc
  rcases hc with rfl | rfl | rfl | rfl | rfl | rfl | rfl
  · exact w_c0
  · exact w_c1
  · exact w_c2
  · exact w_c3
  · exact w_c4
  · exact w_c5
  · exact w_c6
set_option maxRecDepth 65536 in
theorem w_t1 : (words1.take 24).all (fun c => isCode c || c.before args0 about1) = true := by decide +kernel
set_option maxRecDepth 65536 in
theorem w_t2 : (words1.drop 24).all (fun c => isCode c || c.before args0 about1) = true := by decide +kernel
theorem w_tables : (allAtoms (Jvm.Cond.code x code maxLocals ret :: tables_1)).before args0 about1 = true := by
  rw [allAtoms_all]
  show words1.all (fun c => c.before args0 about1) = true
  refine all_split ?_ w_codes
  rw [← List.take_append_drop 24 words1, List.all_append, w_t1, w_t2]
  rfl
set_option maxRecDepth 65536 in
theorem w_case : (Jvm.Cond.and given_1 narrow_1).before args0 about1 = true := by decide +kernel
theorem w_applies : (headSpec (Jvm.Cond.code x code maxLocals ret :: tables_1) room_1).applies x e0.platform about1 = true :=
  (Spec.applies_iff w_frames).mpr ⟨w_running, w_runnable, w_alone, w_named, w_hears, w_ripe, w_room, w_tables⟩
theorem atStart : AtStart classFile x code maxLocals ret World_1 tables_1 room_1 Calls_1 rest_1 Pre_1 launch0 p0 e0 about1 theMethod args0 below0 :=
  ⟨lists_1, trivial, launch0.admits_env _ _ _, launch0.least_env, fairChoices_fair.cas, fairChoices_fair.clock, w_frames, w_args, w_heap, w_applies, trivial, trivial, w_case⟩
end start1
theorem witness_1 : WitnessClaimed_1 := ⟨start1.p0, start1.e0, start1.about1, start1.theMethod, start1.args0, start1.below0, start1.atStart⟩
end Jvm.Pilot.@@N@@
