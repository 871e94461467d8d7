import JvmDerived
import JvmDerived.Pilot.@@N@@Statement
import JvmDerived.Pilot.@@N@@Code
set_option linter.unusedVariables false
set_option linter.unusedSimpArgs false
namespace Jvm.RoadKit
open Sem ClassFile Op Lib Jvm.Stand Jvm.Free Jvm.LawKit
section New
variable {p : Program} {l : Launch} {e : Env} {R : Room} {s : State} {m : MethodId} {args : Array Value} {below : List Frame} {meth : Method} {c : Code} {T : State} {locs : List Loc} {cells slots : Nat}
theorem retI (X : Stand p l e R s m args below meth c T locs cells slots) (hx : p.tables.exec = Jvm.exec) {pc : Nat} {Ls : Array Slot} {z : Int32} {rest : List Value} (hret : meth.sig.returnType = some .int) (hd : decode c.code pc = .ok (.ireturn, 1)) {fs : List Frame}
    (hl : ∀ (f : JFrame) (acts : List Action), f.method = m → f.locked = none → f.entered = [] → (doReturn e (T.setTop f) acts (some (.int z))).1 = T.setFrames fs) : Steps p.tables e below (T.setTop (mkF m pc Ls (.int z :: rest))) (T.setFrames fs) := by
  have hm' : T.vm.method? m = some meth := X.method'
  have hn : narrow .int (.int z) = .int z := rfl
  show Steps p.tables e below (T.setTop { method := m, pc := pc, locals := Ls, stack := _ :: rest, locked := none }) _
  jvm_step X.here [X.here.top, hx, hd, hm', hret, hn]
  first | (intro acts; rw [hl _ acts rfl rfl rfl]) | rw [hl _ _ rfl rfl rfl]
  exact Steps.refl _
end New
end Jvm.RoadKit
namespace Jvm.Pilot.@@N@@
open Jvm Jvm.ClassFile Sem Op Lib Jvm.Free Jvm.Stand Jvm.LawKit Jvm.RoadKit Bundle Jvm.Pilot.@@N@@.Jvm.D
/-- a boolean of the law's, as the int that the machine holds -/
def bI (P : Prop) [Decidable P] : Int32 := if P then 1 else 0
theorem bI_t {P : Prop} [Decidable P] (h : P) : bI P = (1 : Int32) := if_pos h
theorem bI_f {P : Prop} [Decidable P] (h : ¬ P) : bI P = (0 : Int32) := if_neg h
theorem bI_n {P : Prop} [Decidable P] (h : P) : ¬ (bI P = (0 : Int32)) := by rw [bI_t h]; decide
theorem bI_iff {P Q : Prop} [Decidable P] [Decidable Q] (h : P ↔ Q) : bI P = bI Q := by
  by_cases p : P
  · rw [bI_t p, bI_t (h.mp p)]
  · rw [bI_f p, bI_f fun q => p (h.mpr q)]
theorem bI_nar {P : Prop} [Decidable P] : nar .boolean (bI P) = bI P := by
  by_cases p : P
  · rw [bI_t p]; rfl
  · rw [bI_f p]; rfl
theorem own_100 : (100 : Int64).toInt = 100 := by decide
theorem own_p (a : Int32) : 1 ≤ ((1 : Int32) + ((a &&& (2147483647 : Int32)) - ((a &&& (2147483647 : Int32)) / (100 : Int32)) * (100 : Int32))).toInt ∧ ((1 : Int32) + ((a &&& (2147483647 : Int32)) - ((a &&& (2147483647 : Int32)) / (100 : Int32)) * (100 : Int32))).toInt ≤ 100 := by
  have e1 := c_mask a 2147483647 31 (by decide) (by decide)
  generalize a &&& (2147483647 : Int32) = x at *
  have h0 : 0 ≤ x.toInt := by rw [e1]; exact Int.emod_nonneg _ (by decide)
  have d := (c_idiv x 100 100 (by decide) (by decide)).1 h0
  have m := c_imul (x / 100) 100
  have s := c_isub x (x / 100 * 100)
  have t := c_iadd 1 (x - x / 100 * 100)
  have r0 := rng32 x
  have r1 := rng32 (x / 100 * 100)
  have r2 := rng32 (x - x / 100 * 100)
  have r3 := rng32 (1 + (x - x / 100 * 100))
  have e100 : (100 : Int32).toInt = 100 := by decide
  have e01 : (1 : Int32).toInt = 1 := by decide
  rw [d, e100] at m
  rw [e01] at t
  omega
theorem own_r (b : Int32) : 100 < ((101 : Int64) + ((b.toInt64 &&& (2147483647 : Int64)) - ((b.toInt64 &&& (2147483647 : Int64)) / (2147483547 : Int64)) * (2147483547 : Int64))).toInt32.toInt := by
  have e1 := c_maskL b.toInt64 2147483647 31 (by decide) (by decide)
  generalize b.toInt64 &&& (2147483647 : Int64) = x at *
  have h0 : 0 ≤ x.toInt := by rw [e1]; exact Int.emod_nonneg _ (by decide)
  have h1 : x.toInt < 2147483648 := by rw [e1]; exact Int.emod_lt_of_pos _ (by decide)
  have d := (c_lrem x 2147483547 2147483547 (by decide)).1 h0
  have t := c_ladd 101 (x - x / 2147483547 * 2147483547)
  have r3 := rng64 ((101 : Int64) + (x - x / 2147483547 * 2147483547))
  have u := c_l2i ((101 : Int64) + (x - x / 2147483547 * 2147483547))
  have r4 := rng32 ((101 : Int64) + (x - x / 2147483547 * 2147483547)).toInt32
  have e01 : (101 : Int64).toInt = 101 := by decide
  rw [d, e01] at t
  omega
def own_c (x : Int64) : Int64 := if (0 : Int64) < (x - (x / (100 : Int64)) * (100 : Int64)) then ((x / (100 : Int64)) + (1 : Int64)) else (x / (100 : Int64))
theorem own_cv (x : Int64) (h1 : -4611686018427387904 ≤ x.toInt) (h2 : x.toInt ≤ 4611686018427387904) : 100 * (own_c x).toInt - 100 < x.toInt ∧ x.toInt ≤ 100 * (own_c x).toInt := by
  have d := c_ldiv x 100 100 (by decide) (by decide)
  have r := c_lrem x 100 100 (by decide)
  have a := c_ladd (x / 100) 1
  have ra := rng64 (x / 100 + 1)
  have e0 : (0 : Int64).toInt = 0 := by decide
  have e1 : (1 : Int64).toInt = 1 := by decide
  rw [e1] at a
  unfold own_c
  by_cases hx : 0 ≤ x.toInt
  · have d' := d.1 hx
    have r' := r.1 hx
    split
    · rename_i q; rw [Int64.lt_iff_toInt_lt, e0] at q; omega
    · rename_i q; rw [Int64.lt_iff_toInt_lt, e0] at q; omega
  · have d' := d.2 (by omega)
    have r' := r.2 (by omega)
    split
    · rename_i q; rw [Int64.lt_iff_toInt_lt, e0] at q; omega
    · rename_i q; rw [Int64.lt_iff_toInt_lt, e0] at q; omega
theorem own_one (i x y : Int32) (h : 0 ≤ x.toInt) : (i.toInt64 * (100 : Int64)) < (x.toInt64 * y.toInt64) ↔ i.toInt64 < own_c (x.toInt64 * y.toInt64) := by
  have m1 := c_lmul i.toInt64 100
  have m2 := c_lmul x.toInt64 y.toInt64
  rw [c_i2l, own_100] at m1
  rw [c_i2l, c_i2l] at m2
  have rx := rng32 x
  have ry := rng32 y
  have ri := rng32 i
  have b1 : x.toInt * y.toInt ≤ 4611686018427387904 := by
    have := (mc (a := x.toInt) (b := y.toInt) (l1 := 0) (h1 := 2147483647) (l2 := -2147483648) (h2 := 2147483647) h (by omega) (by omega) (by omega)).2.2.2
    omega
  have b2 : -4611686018427387904 ≤ x.toInt * y.toInt := by
    have := (mc (a := x.toInt) (b := y.toInt) (l1 := 0) (h1 := 2147483647) (l2 := -2147483648) (h2 := 2147483647) h (by omega) (by omega) (by omega)).1
    omega
  have r1 := rng64 (i.toInt64 * 100)
  have r2 := rng64 (x.toInt64 * y.toInt64)
  generalize x.toInt * y.toInt = P at *
  have c := own_cv (x.toInt64 * y.toInt64) (by omega) (by omega)
  rw [Int64.lt_iff_toInt_lt, Int64.lt_iff_toInt_lt, c_i2l]
  omega
theorem own_fin (i x y z w : Int32) (hx : 0 ≤ x.toInt) (hz : 0 ≤ z.toInt) : bI (¬ ((i.toInt64) * (100 : Int64) < (x.toInt64) * (y.toInt64)) ∧ (¬ ((i.toInt64) * (100 : Int64) < (z.toInt64) * (w.toInt64)))) = bI (¬ ((i.toInt64) < own_c ((x.toInt64) * (y.toInt64))) ∧ (¬ ((i.toInt64) < own_c ((z.toInt64) * (w.toInt64))))) := by
  have a := own_one i x y hx
  have b := own_one i z w hz
  exact bI_iff ⟨fun q => ⟨fun k => q.1 (a.mpr k), fun k => q.2 (b.mpr k)⟩, fun q => ⟨fun k => q.1 (a.mp k), fun k => q.2 (b.mp k)⟩⟩
theorem d2_0 : decode jdk_30_method_1_code 0 = .ok (.aload_n 0, 1) := by decide +kernel
theorem d2_1 : decode jdk_30_method_1_code 1 = .ok (.invokespecial 1, 3) := by decide +kernel
theorem d2_4 : decode jdk_30_method_1_code 4 = .ok (.return_, 1) := by decide +kernel
theorem pn_2 : plainName "java/lang/Record" = true := by first | (simp [plainName, overriddenIn]; done) | decide +kernel
theorem ef_2 (m : MethodId) (x0 : Addr) : entryFrame m #[(.ref x0)] 1 = mkF m 0 #[.val (.ref x0)] [] := by first | (simp [entryFrame, mkF, argsToLocals, Value.category]; done) | rfl
def Q2 (Z : State) (a2_0 : Addr) (h0 : Heap) (n0 : Nat) (v : Option Value) (h : Heap) (L : List Loc) : Prop := v = none ∧ Fr n0 L ∧ h = h0
set_option maxRecDepth 65536 in
set_option maxHeartbeats 40000000 in
theorem rm2 (l : Launch) (Z : State) (a0 : Array Value) (hw : ∀ d ∈ tables_1, d.before a0 Z = true) (ws : List Jvm.Cond) (a2_0 : Addr) (h0 : Heap) (n0 : Nat) (Z0 : n0 ≤ h0.size) :
    MetFree l (⟨"java/lang/Record", "<init>", "()V"⟩ : MethodName) (head1 (Jvm.Cond.code (⟨"java/lang/Record", "<init>", "()V"⟩ : MethodName) jdk_30_method_1_code 1 none :: ws) ({ frames := 1, cells := 0, slots := 0, locals := 12 } : Room)) (fun a U => a = #[(.ref a2_0)] ∧ Z.Warmed39 U.vm ∧ U.heap = h0) (fun _ _ _ _ _ => True) (fun _ U o U' => ∃ v L, o = .returned v ∧ Q2 Z a2_0 h0 n0 v U'.heap L ∧ FrameEnd U o U' L ({ frames := 1, cells := 0, slots := 0, locals := 12 } : Room).cells ({ frames := 1, cells := 0, slots := 0, locals := 12 } : Room).slots) := by
  refine MetFree.of_bodySF (plainFor_of_name pn_2) hisR ?_
  intro p e s m args below meth c s₁ Bd hml0 hP hK
  obtain ⟨rfl, hZ, hh⟩ := hP
  have hW : ∀ (i : Nat) (d : Jvm.Cond), tables_1[i]? = some d → d.before a0 Z = true := fun i d h => hw d (List.mem_of_getElem? h)
  have hx := Bd.exec
  have hby := Bd.bytes
  have hml : c.maxLocals = 1 := hml0
  have hown : s.vm.findClass "java/lang/Record" = some m.cls := findClass_of_methodNamed Bd.named
  have hnm := (name_of_methodNamed Bd.named Bd.method).1
  have X0 : Stand p l e ({ frames := 1, cells := 0, slots := 0, locals := 12 } : Room) s m #[(.ref a2_0)] below meth c s₁ [] 0 0 := Stand.of_body Bd
  have e0 : s₁.heap = h0 := by rw [← hh, Bd.state]; rfl
  have N0 := Fr.nil n0
  have pre0 : ∀ t, Steps p.tables e below (s₁.setTop (mkF m 0 #[.val (.ref a2_0)] [])) t → Steps p.tables e below (s₁.setTop (entryFrame m #[(.ref a2_0)] 1)) t := fun t k => castTop (ef_2 m a2_0) k
  obtain ⟨T1, X1, e1, st1⟩ := initO X0 hx hZ hown (hW 15 _ rfl) (hW 16 _ rfl) (hW 17 _ rfl) e0 (g := (mkF m 1 #[.val (.ref a2_0)] [(.ref a2_0)])) rfl (by rw [hml]; rfl) rfl (hb hby d2_1) (by decide) (W := 0) (by show 2 * 0 + _ ≤ _; exact Nat.le_of_eq rfl) (by decide)
  have pre2 : ∀ t, Steps p.tables e below (T1.setTop (mkF m 4 #[.val (.ref a2_0)] [])) t → Steps p.tables e below (s₁.setTop (entryFrame m #[(.ref a2_0)] 1)) t := fun t k => pre0 t (by
    show Steps p.tables e below (s₁.setTop (mkF m 0 #[.val (.ref a2_0)] [])) _
    refine XS.aloadN X0.here hx rfl (hb hby d2_0) rfl rfl ?_
    show Steps p.tables e below (s₁.setTop (mkF m 1 #[.val (.ref a2_0)] [(.ref a2_0)])) _
    refine st1 _ ?_
    exact k)
  obtain ⟨fs, hr, hrun, hended, hW, hsame⟩ := X1.leave (v := none) (fun _ => rfl)
  refine ⟨_, _, pre2 _ ?_, hrun, hended, _, _, rfl, ?_, ⟨_, rfl⟩, hW, hsame.mono (by decide) (by decide)⟩
  · show Steps p.tables e below (T1.setTop (mkF m 4 #[.val (.ref a2_0)] [])) _
    exact X1.returnOut hx Bd.returns (hb hby d2_4) hr
  · show Q2 Z a2_0 h0 n0 _ T1.heap _
    rw [e1]
    exact ⟨rfl, N0, rfl⟩
theorem pd_0 : parseMethodDescriptor "()V" = some ⟨[], none⟩ := by decide +kernel
theorem d1_0 : decode prog_63_method_1_code 0 = .ok (.aload_n 0, 1) := by decide +kernel
theorem d1_1 : decode prog_63_method_1_code 1 = .ok (.invokespecial 1, 3) := by decide +kernel
theorem d1_4 : decode prog_63_method_1_code 4 = .ok (.iload_n 1, 1) := by decide +kernel
theorem d1_5 : decode prog_63_method_1_code 5 = .ok (.iconst 1, 1) := by decide +kernel
theorem d1_6 : decode prog_63_method_1_code 6 = .ok (.if_icmp .lt 15, 3) := by decide +kernel
theorem d1_9 : decode prog_63_method_1_code 9 = .ok (.iload_n 1, 1) := by decide +kernel
theorem d1_10 : decode prog_63_method_1_code 10 = .ok (.bipush 100, 2) := by decide +kernel
theorem d1_12 : decode prog_63_method_1_code 12 = .ok (.if_icmp .gt 9, 3) := by decide +kernel
theorem d1_15 : decode prog_63_method_1_code 15 = .ok (.iload_n 2, 1) := by decide +kernel
theorem d1_16 : decode prog_63_method_1_code 16 = .ok (.bipush 100, 2) := by decide +kernel
theorem d1_18 : decode prog_63_method_1_code 18 = .ok (.if_icmp .gt 18, 3) := by decide +kernel
theorem d1_36 : decode prog_63_method_1_code 36 = .ok (.aload_n 0, 1) := by decide +kernel
theorem d1_37 : decode prog_63_method_1_code 37 = .ok (.iload_n 1, 1) := by decide +kernel
theorem d1_38 : decode prog_63_method_1_code 38 = .ok (.putfield 16, 3) := by decide +kernel
theorem d1_41 : decode prog_63_method_1_code 41 = .ok (.aload_n 0, 1) := by decide +kernel
theorem d1_42 : decode prog_63_method_1_code 42 = .ok (.iload_n 2, 1) := by decide +kernel
theorem d1_43 : decode prog_63_method_1_code 43 = .ok (.putfield 22, 3) := by decide +kernel
theorem d1_46 : decode prog_63_method_1_code 46 = .ok (.return_, 1) := by decide +kernel
theorem pn_1 : plainName "com/example/shieldwall/shieldwall/rules/UnitVictory" = true := by first | (simp [plainName, overriddenIn]; done) | decide +kernel
theorem ef_1 (m : MethodId) (x0 : Addr) (x1 : Int32) (x2 : Int32) : entryFrame m #[(.ref x0), (.int x1), (.int x2)] 3 = mkF m 0 #[.val (.ref x0), .val (.int x1), .val (.int x2)] [] := by first | (simp [entryFrame, mkF, argsToLocals, Value.category]; done) | rfl
def Q1 (Z : State) (a1_0 : Addr) (p1_1 : Int32) (p1_2 : Int32) (w1_percentOfOpponent_a1_0 : Int32) (w1_percentOfSuffered_a1_0 : Int32) (h0 : Heap) (n0 : Nat) (v : Option Value) (h : Heap) (L : List Loc) : Prop := v = none ∧ Fr n0 L ∧ Keep h0 h [a1_0] ∧ Exa Z h a1_0 "com/example/shieldwall/shieldwall/rules/UnitVictory" ∧ Fld Z h a1_0 "com/example/shieldwall/shieldwall/rules/UnitVictory" "percentOfOpponent" "I" (.int p1_1) ∧ Fld Z h a1_0 "com/example/shieldwall/shieldwall/rules/UnitVictory" "percentOfSuffered" "I" (.int p1_2)
set_option maxRecDepth 65536 in
set_option maxHeartbeats 40000000 in
theorem rm1 (l : Launch) (Z : State) (a0 : Array Value) (hw : ∀ d ∈ tables_1, d.before a0 Z = true) (ws : List Jvm.Cond) (a1_0 : Addr) (p1_1 : Int32) (p1_2 : Int32) (w1_percentOfOpponent_a1_0 : Int32) (w1_percentOfSuffered_a1_0 : Int32) (h0 : Heap) (n0 : Nat) (Z0 : n0 ≤ h0.size) (hp1_6 : ¬ (p1_1 < (1 : Int32))) (hp1_12 : ¬ ((100 : Int32) < p1_1)) (hp1_18 : (100 : Int32) < p1_2) (E_a1_0 : Exa Z h0 a1_0 "com/example/shieldwall/shieldwall/rules/UnitVictory") (F_percentOfOpponent_a1_0 : Fld Z h0 a1_0 "com/example/shieldwall/shieldwall/rules/UnitVictory" "percentOfOpponent" "I" (.int w1_percentOfOpponent_a1_0)) (F_percentOfSuffered_a1_0 : Fld Z h0 a1_0 "com/example/shieldwall/shieldwall/rules/UnitVictory" "percentOfSuffered" "I" (.int w1_percentOfSuffered_a1_0)) (g_a1_0 : n0 ≤ a1_0) :
    MetFree l (⟨"com/example/shieldwall/shieldwall/rules/UnitVictory", "<init>", "(II)V"⟩ : MethodName) (head1 (Jvm.Cond.code (⟨"com/example/shieldwall/shieldwall/rules/UnitVictory", "<init>", "(II)V"⟩ : MethodName) prog_63_method_1_code 3 none :: ws) ({ frames := 2, cells := 0, slots := 0, locals := 24 } : Room)) (fun a U => a = #[(.ref a1_0), (.int p1_1), (.int p1_2)] ∧ Z.Warmed39 U.vm ∧ U.heap = h0) (fun _ _ _ _ _ => True) (fun _ U o U' => ∃ v L, o = .returned v ∧ Q1 Z a1_0 p1_1 p1_2 w1_percentOfOpponent_a1_0 w1_percentOfSuffered_a1_0 h0 n0 v U'.heap L ∧ FrameEnd U o U' L ({ frames := 2, cells := 0, slots := 0, locals := 24 } : Room).cells ({ frames := 2, cells := 0, slots := 0, locals := 24 } : Room).slots) := by
  refine MetFree.of_bodySF (plainFor_of_name pn_1) hisR ?_
  intro p e s m args below meth c s₁ Bd hml0 hP hK
  obtain ⟨rfl, hZ, hh⟩ := hP
  have hW : ∀ (i : Nat) (d : Jvm.Cond), tables_1[i]? = some d → d.before a0 Z = true := fun i d h => hw d (List.mem_of_getElem? h)
  have hx := Bd.exec
  have hby := Bd.bytes
  have hml : c.maxLocals = 3 := hml0
  have hown : s.vm.findClass "com/example/shieldwall/shieldwall/rules/UnitVictory" = some m.cls := findClass_of_methodNamed Bd.named
  have hnm := (name_of_methodNamed Bd.named Bd.method).1
  have X0 : Stand p l e ({ frames := 2, cells := 0, slots := 0, locals := 24 } : Room) s m #[(.ref a1_0), (.int p1_1), (.int p1_2)] below meth c s₁ [] 0 0 := Stand.of_body Bd
  have e0 : s₁.heap = h0 := by rw [← hh, Bd.state]; rfl
  have N0 := Fr.nil n0
  have pre0 : ∀ t, Steps p.tables e below (s₁.setTop (mkF m 0 #[.val (.ref a1_0), .val (.int p1_1), .val (.int p1_2)] [])) t → Steps p.tables e below (s₁.setTop (entryFrame m #[(.ref a1_0), (.int p1_1), (.int p1_2)] 3)) t := fun t k => castTop (ef_1 m a1_0 p1_1 p1_2) k
  obtain ⟨_, _, ⟨T1, L1, k1, n1⟩, -, X1, ⟨Lc1, hQ1, l1, y1, z1⟩, st1⟩ := X0.specialBack hx (y := (⟨"java/lang/Record", "<init>", "()V"⟩ : MethodName)) rfl hown (mvT hZ (hW 10 _ rfl)) (mvT hZ (hW 11 _ rfl)) (mvT hZ (hW 14 _ rfl)) (by decide) (backOf (W := 0) (rm2 l Z a0 hw [] a1_0 h0 n0 Z0 ) hZ (hW 14 _ rfl) (hW 13 _ rfl) (by decide) (by decide)) (g := (mkF m 1 #[.val (.ref a1_0), .val (.int p1_1), .val (.int p1_2)] [(.ref a1_0)])) rfl (by rw [hml]; rfl) (Steps.refl _) (a := a1_0) (argsL := []) (rest := []) (lenOf pd_0 rfl) rfl (by show 2 * 0 + _ ≤ _; exact Nat.le_of_eq rfl) (hb hby d1_1) (fun _ _ => ⟨rfl, e0, (by decide : 0 + 0 ≤ _), (by decide : 0 + 0 ≤ _)⟩)
  dsimp only [Pt.U, Pt.locs, Pt.cells, Pt.slots] at X1 l1 y1 z1 st1 hQ1
  subst l1 y1 z1
  obtain ⟨rfl, N1q, e1⟩ := hQ1
  have N2 := Fr.app N0 N1q
  have pre3 : ∀ t, Steps p.tables e below (T1.setTop (mkF m 4 #[.val (.ref a1_0), .val (.int p1_1), .val (.int p1_2)] [])) t → Steps p.tables e below (s₁.setTop (entryFrame m #[(.ref a1_0), (.int p1_1), (.int p1_2)] 3)) t := fun t k => pre0 t (by
    show Steps p.tables e below (s₁.setTop (mkF m 0 #[.val (.ref a1_0), .val (.int p1_1), .val (.int p1_2)] [])) _
    refine XS.aloadN X0.here hx rfl (hb hby d1_0) rfl rfl ?_
    show Steps p.tables e below (s₁.setTop (mkF m 1 #[.val (.ref a1_0), .val (.int p1_1), .val (.int p1_2)] [(.ref a1_0)])) _
    refine st1.trans ?_
    exact k)
  obtain ⟨T4, h4, X4, e4, W4, st4⟩ := putF X1 hx hZ hown (host := "") (Or.inl (hW 18 _ rfl)) Via.refl e1 F_percentOfOpponent_a1_0 E_a1_0 (Or.inr ⟨(hW 19 _ rfl), rfl, hnm⟩) (hW 5 _ rfl) (ty := .int) (by decide) rfl rfl (g := (mkF m 38 #[.val (.ref a1_0), .val (.int p1_1), .val (.int p1_2)] [(.int p1_1), (.ref a1_0)])) rfl rfl (hb hby d1_38)
  have pre5 : ∀ t, Steps p.tables e below (T4.setTop (mkF m 41 #[.val (.ref a1_0), .val (.int p1_1), .val (.int p1_2)] [])) t → Steps p.tables e below (s₁.setTop (entryFrame m #[(.ref a1_0), (.int p1_1), (.int p1_2)] 3)) t := fun t k => pre3 t (by
    show Steps p.tables e below (T1.setTop (mkF m 4 #[.val (.ref a1_0), .val (.int p1_1), .val (.int p1_2)] [])) _
    refine XS.iloadN X1.here hx rfl (hb hby d1_4) rfl ?_
    show Steps p.tables e below (T1.setTop (mkF m 5 #[.val (.ref a1_0), .val (.int p1_1), .val (.int p1_2)] [(.int p1_1)])) _
    refine XS.iconst X1.here hx rfl (hb hby d1_5) ?_
    show Steps p.tables e below (T1.setTop (mkF m 6 #[.val (.ref a1_0), .val (.int p1_1), .val (.int p1_2)] [(.int (1 : Int32)), (.int p1_1)])) _
    refine XS.icmpNo X1.here hx rfl (hb hby d1_6) rfl (flt hp1_6).1 ?_
    show Steps p.tables e below (T1.setTop (mkF m 9 #[.val (.ref a1_0), .val (.int p1_1), .val (.int p1_2)] [])) _
    refine XS.iloadN X1.here hx rfl (hb hby d1_9) rfl ?_
    show Steps p.tables e below (T1.setTop (mkF m 10 #[.val (.ref a1_0), .val (.int p1_1), .val (.int p1_2)] [(.int p1_1)])) _
    refine XS.bipush X1.here hx rfl (hb hby d1_10) ?_
    show Steps p.tables e below (T1.setTop (mkF m 12 #[.val (.ref a1_0), .val (.int p1_1), .val (.int p1_2)] [(.int (100 : Int32)), (.int p1_1)])) _
    refine XS.icmpNo X1.here hx rfl (hb hby d1_12) rfl (flt hp1_12).2.2.1 ?_
    show Steps p.tables e below (T1.setTop (mkF m 15 #[.val (.ref a1_0), .val (.int p1_1), .val (.int p1_2)] [])) _
    refine XS.iloadN X1.here hx rfl (hb hby d1_15) rfl ?_
    show Steps p.tables e below (T1.setTop (mkF m 16 #[.val (.ref a1_0), .val (.int p1_1), .val (.int p1_2)] [(.int p1_2)])) _
    refine XS.bipush X1.here hx rfl (hb hby d1_16) ?_
    show Steps p.tables e below (T1.setTop (mkF m 18 #[.val (.ref a1_0), .val (.int p1_1), .val (.int p1_2)] [(.int (100 : Int32)), (.int p1_2)])) _
    refine XS.icmpYes X1.here hx rfl (pc0 := 18) (pc' := 36) rfl (hb hby d1_18) rfl (tlt hp1_18).2.2.1 (by decide) (by decide) ?_
    show Steps p.tables e below (T1.setTop (mkF m 36 #[.val (.ref a1_0), .val (.int p1_1), .val (.int p1_2)] [])) _
    refine XS.aloadN X1.here hx rfl (hb hby d1_36) rfl rfl ?_
    show Steps p.tables e below (T1.setTop (mkF m 37 #[.val (.ref a1_0), .val (.int p1_1), .val (.int p1_2)] [(.ref a1_0)])) _
    refine XS.iloadN X1.here hx rfl (hb hby d1_37) rfl ?_
    show Steps p.tables e below (T1.setTop (mkF m 38 #[.val (.ref a1_0), .val (.int p1_1), .val (.int p1_2)] [(.int p1_1), (.ref a1_0)])) _
    refine st4 _ ?_
    exact k)
  have f6 := E_a1_0.wr W4
  have f7 := F_percentOfSuffered_a1_0.other W4 (Or.inr (slot_ne (Or.inr (hW 21 _ rfl)) (Or.inr (hW 19 _ rfl)) (by decide) (t := .int) (t' := .int) (by decide) (by decide)))
  have z8 := Nat.le_trans Z0 (Keep.of_wr W4).1
  have k9 := (Keep.refl h0 [a1_0]).wr W4 (Or.inl (List.mem_of_getElem? (i := 0) rfl))
  have f10 := F_percentOfOpponent_a1_0.same W4
  have N11 := Fr.snoc X4 N2 g_a1_0
  obtain ⟨T12, h12, X12, e12, W12, st12⟩ := putF X4 hx hZ hown (host := "") (Or.inl (hW 20 _ rfl)) Via.refl e4 f7 f6 (Or.inr ⟨(hW 21 _ rfl), rfl, hnm⟩) (hW 5 _ rfl) (ty := .int) (by decide) rfl rfl (g := (mkF m 43 #[.val (.ref a1_0), .val (.int p1_1), .val (.int p1_2)] [(.int p1_2), (.ref a1_0)])) rfl rfl (hb hby d1_43)
  have pre13 : ∀ t, Steps p.tables e below (T12.setTop (mkF m 46 #[.val (.ref a1_0), .val (.int p1_1), .val (.int p1_2)] [])) t → Steps p.tables e below (s₁.setTop (entryFrame m #[(.ref a1_0), (.int p1_1), (.int p1_2)] 3)) t := fun t k => pre5 t (by
    show Steps p.tables e below (T4.setTop (mkF m 41 #[.val (.ref a1_0), .val (.int p1_1), .val (.int p1_2)] [])) _
    refine XS.aloadN X4.here hx rfl (hb hby d1_41) rfl rfl ?_
    show Steps p.tables e below (T4.setTop (mkF m 42 #[.val (.ref a1_0), .val (.int p1_1), .val (.int p1_2)] [(.ref a1_0)])) _
    refine XS.iloadN X4.here hx rfl (hb hby d1_42) rfl ?_
    show Steps p.tables e below (T4.setTop (mkF m 43 #[.val (.ref a1_0), .val (.int p1_1), .val (.int p1_2)] [(.int p1_2), (.ref a1_0)])) _
    refine st12 _ ?_
    exact k)
  have f14 := f6.wr W12
  have f15 := f10.other W12 (Or.inr (slot_ne (Or.inr (hW 19 _ rfl)) (Or.inr (hW 21 _ rfl)) (by decide) (t := .int) (t' := .int) (by decide) (by decide)))
  have z16 := Nat.le_trans z8 (Keep.of_wr W12).1
  have k17 := k9.wr W12 (Or.inl (List.mem_of_getElem? (i := 0) rfl))
  have f18 := f7.same W12
  have N19 := Fr.snoc X12 N11 g_a1_0
  obtain ⟨fs, hr, hrun, hended, hW, hsame⟩ := X12.leave (v := none) (fun _ => rfl)
  refine ⟨_, _, pre13 _ ?_, hrun, hended, _, _, rfl, ?_, ⟨_, rfl⟩, hW, hsame.mono (by decide) (by decide)⟩
  · show Steps p.tables e below (T12.setTop (mkF m 46 #[.val (.ref a1_0), .val (.int p1_1), .val (.int p1_2)] [])) _
    exact X12.returnOut hx Bd.returns (hb hby d1_46) hr
  · show Q1 Z a1_0 p1_1 p1_2 w1_percentOfOpponent_a1_0 w1_percentOfSuffered_a1_0 h0 n0 _ T12.heap _
    rw [e12]
    exact ⟨rfl, N19, k17, f14, f15, f18⟩
theorem d4_0 : decode method_3_code 0 = .ok (.lload_n 0, 1) := by decide +kernel
theorem d4_1 : decode method_3_code 1 = .ok (.ldc2_w 31, 3) := by decide +kernel
theorem d4_4 : decode method_3_code 4 = .ok (.ldiv, 1) := by decide +kernel
theorem d4_5 : decode method_3_code 5 = .ok (.lstore_n 2, 1) := by decide +kernel
theorem d4_6 : decode method_3_code 6 = .ok (.lload_n 0, 1) := by decide +kernel
theorem d4_7 : decode method_3_code 7 = .ok (.ldc2_w 31, 3) := by decide +kernel
theorem d4_10 : decode method_3_code 10 = .ok (.lrem, 1) := by decide +kernel
theorem d4_11 : decode method_3_code 11 = .ok (.lconst 0, 1) := by decide +kernel
theorem d4_12 : decode method_3_code 12 = .ok (.lcmp, 1) := by decide +kernel
theorem d4_13 : decode method_3_code 13 = .ok (.ifCond .le 7, 3) := by decide +kernel
theorem d4_16 : decode method_3_code 16 = .ok (.lload_n 2, 1) := by decide +kernel
theorem d4_17 : decode method_3_code 17 = .ok (.lconst 1, 1) := by decide +kernel
theorem d4_18 : decode method_3_code 18 = .ok (.ladd, 1) := by decide +kernel
theorem d4_19 : decode method_3_code 19 = .ok (.lstore_n 2, 1) := by decide +kernel
theorem d4_20 : decode method_3_code 20 = .ok (.lload_n 2, 1) := by decide +kernel
theorem d4_21 : decode method_3_code 21 = .ok (.lreturn, 1) := by decide +kernel
theorem pn_4 : plainName "com/example/shieldwall/shieldwall/rules/UnitVictoryWinsPinLaw" = true := by first | (simp [plainName, overriddenIn]; done) | decide +kernel
theorem ef_4 (m : MethodId) (x0 : Int64) : entryFrame m #[(.long x0)] 4 = mkF m 0 #[.val (.long x0), .second, .unset, .unset] [] := by first | (simp [entryFrame, mkF, argsToLocals, Value.category]; done) | rfl
def Q4 (Z : State) (q4_0 : Int64) (h0 : Heap) (n0 : Nat) (v : Option Value) (h : Heap) (L : List Loc) : Prop := v = some (.long (if (0 : Int64) < (q4_0 - (q4_0 / (100 : Int64)) * (100 : Int64)) then ((q4_0 / (100 : Int64)) + (1 : Int64)) else (q4_0 / (100 : Int64)))) ∧ Fr n0 L ∧ h = h0
set_option maxRecDepth 65536 in
set_option maxHeartbeats 40000000 in
theorem rm4 (l : Launch) (Z : State) (a0 : Array Value) (hw : ∀ d ∈ tables_1, d.before a0 Z = true) (ws : List Jvm.Cond) (q4_0 : Int64) (h0 : Heap) (n0 : Nat) (Z0 : n0 ≤ h0.size) :
    MetFree l (⟨"com/example/shieldwall/shieldwall/rules/UnitVictoryWinsPinLaw", "ceilHundredth", "(J)J"⟩ : MethodName) (head1 (Jvm.Cond.code (⟨"com/example/shieldwall/shieldwall/rules/UnitVictoryWinsPinLaw", "ceilHundredth", "(J)J"⟩ : MethodName) method_3_code 4 (some .long) :: ws) ({ frames := 0, cells := 0, slots := 0, locals := 0 } : Room)) (fun a U => a = #[(.long q4_0)] ∧ Z.Warmed39 U.vm ∧ U.heap = h0) (fun _ _ _ _ _ => True) (fun _ U o U' => ∃ v L, o = .returned v ∧ Q4 Z q4_0 h0 n0 v U'.heap L ∧ FrameEnd U o U' L ({ frames := 0, cells := 0, slots := 0, locals := 0 } : Room).cells ({ frames := 0, cells := 0, slots := 0, locals := 0 } : Room).slots) := by
  refine MetFree.of_bodySF (plainFor_of_name pn_4) hisR ?_
  intro p e s m args below meth c s₁ Bd hml0 hP hK
  obtain ⟨rfl, hZ, hh⟩ := hP
  have hW : ∀ (i : Nat) (d : Jvm.Cond), tables_1[i]? = some d → d.before a0 Z = true := fun i d h => hw d (List.mem_of_getElem? h)
  have hx := Bd.exec
  have hby := Bd.bytes
  have hml : c.maxLocals = 4 := hml0
  have hown : s.vm.findClass "com/example/shieldwall/shieldwall/rules/UnitVictoryWinsPinLaw" = some m.cls := findClass_of_methodNamed Bd.named
  have hnm := (name_of_methodNamed Bd.named Bd.method).1
  have X0 : Stand p l e ({ frames := 0, cells := 0, slots := 0, locals := 0 } : Room) s m #[(.long q4_0)] below meth c s₁ [] 0 0 := Stand.of_body Bd
  have e0 : s₁.heap = h0 := by rw [← hh, Bd.state]; rfl
  have N0 := Fr.nil n0
  have pre0 : ∀ t, Steps p.tables e below (s₁.setTop (mkF m 0 #[.val (.long q4_0), .second, .unset, .unset] [])) t → Steps p.tables e below (s₁.setTop (entryFrame m #[(.long q4_0)] 4)) t := fun t k => castTop (ef_4 m q4_0) k
  have pre2 : ∀ t, Steps p.tables e below (s₁.setTop (mkF m 13 #[.val (.long q4_0), .second, .val (.long (q4_0 / (100 : Int64))), .second] [(.int (lcmpW (q4_0 - (q4_0 / (100 : Int64)) * (100 : Int64)) (0 : Int64)))])) t → Steps p.tables e below (s₁.setTop (entryFrame m #[(.long q4_0)] 4)) t := fun t k => pre0 t (by
    show Steps p.tables e below (s₁.setTop (mkF m 0 #[.val (.long q4_0), .second, .unset, .unset] [])) _
    refine XS.lloadN X0.here hx rfl (hb hby d4_0) rfl ?_
    show Steps p.tables e below (s₁.setTop (mkF m 1 #[.val (.long q4_0), .second, .unset, .unset] [(.long q4_0)])) _
    refine X0.ldc2Long hx hown (mvT hZ (hW 26 _ rfl)) (g := (mkF m 1 #[.val (.long q4_0), .second, .unset, .unset] [(.long q4_0)])) rfl (hb hby d4_1) _ ?_
    show Steps p.tables e below (s₁.setTop (mkF m 4 #[.val (.long q4_0), .second, .unset, .unset] [(.long (100 : Int64)), (.long q4_0)])) _
    refine XS.ldiv X0.here hx rfl (hb hby d4_4) rfl (by decide) ?_
    show Steps p.tables e below (s₁.setTop (mkF m 5 #[.val (.long q4_0), .second, .unset, .unset] [(.long (q4_0 / (100 : Int64)))])) _
    refine XS.lstoreN X0.here hx rfl (hb hby d4_5) rfl (l' := #[.val (.long q4_0), .second, .val (.long (q4_0 / (100 : Int64))), .second]) rfl ?_
    show Steps p.tables e below (s₁.setTop (mkF m 6 #[.val (.long q4_0), .second, .val (.long (q4_0 / (100 : Int64))), .second] [])) _
    refine XS.lloadN X0.here hx rfl (hb hby d4_6) rfl ?_
    show Steps p.tables e below (s₁.setTop (mkF m 7 #[.val (.long q4_0), .second, .val (.long (q4_0 / (100 : Int64))), .second] [(.long q4_0)])) _
    refine X0.ldc2Long hx hown (mvT hZ (hW 26 _ rfl)) (g := (mkF m 7 #[.val (.long q4_0), .second, .val (.long (q4_0 / (100 : Int64))), .second] [(.long q4_0)])) rfl (hb hby d4_7) _ ?_
    show Steps p.tables e below (s₁.setTop (mkF m 10 #[.val (.long q4_0), .second, .val (.long (q4_0 / (100 : Int64))), .second] [(.long (100 : Int64)), (.long q4_0)])) _
    refine XS.lrem X0.here hx rfl (hb hby d4_10) rfl (by decide) ?_
    show Steps p.tables e below (s₁.setTop (mkF m 11 #[.val (.long q4_0), .second, .val (.long (q4_0 / (100 : Int64))), .second] [(.long (q4_0 - (q4_0 / (100 : Int64)) * (100 : Int64)))])) _
    refine XS.lconst X0.here hx rfl (hb hby d4_11) ?_
    show Steps p.tables e below (s₁.setTop (mkF m 12 #[.val (.long q4_0), .second, .val (.long (q4_0 / (100 : Int64))), .second] [(.long (0 : Int64)), (.long (q4_0 - (q4_0 / (100 : Int64)) * (100 : Int64)))])) _
    refine XS.lcmp X0.here hx rfl (hb hby d4_12) rfl ?_
    exact k)
  have pre3 : ∀ t, Steps p.tables e below (s₁.setTop (mkF m 20 #[.val (.long q4_0), .second, .val (.long (if (0 : Int64) < (q4_0 - (q4_0 / (100 : Int64)) * (100 : Int64)) then ((q4_0 / (100 : Int64)) + (1 : Int64)) else (q4_0 / (100 : Int64)))), .second] [])) t → Steps p.tables e below (s₁.setTop (entryFrame m #[(.long q4_0)] 4)) t := fun t k => pre2 t (by
    by_cases hc1 : (0 : Int64) < (q4_0 - (q4_0 / (100 : Int64)) * (100 : Int64))
    · show Steps p.tables e below (s₁.setTop (mkF m 13 #[.val (.long q4_0), .second, .val (.long (q4_0 / (100 : Int64))), .second] [(.int (lcmpW (q4_0 - (q4_0 / (100 : Int64)) * (100 : Int64)) (0 : Int64)))])) _
      refine XS.ifNo X0.here hx rfl (hb hby d4_13) rfl ((if0 _ _).trans (tlt ((lw_gt _ _).mpr hc1)).2.2.2) ?_
      show Steps p.tables e below (s₁.setTop (mkF m 16 #[.val (.long q4_0), .second, .val (.long (q4_0 / (100 : Int64))), .second] [])) _
      refine XS.lloadN X0.here hx rfl (hb hby d4_16) rfl ?_
      show Steps p.tables e below (s₁.setTop (mkF m 17 #[.val (.long q4_0), .second, .val (.long (q4_0 / (100 : Int64))), .second] [(.long (q4_0 / (100 : Int64)))])) _
      refine XS.lconst X0.here hx rfl (hb hby d4_17) ?_
      show Steps p.tables e below (s₁.setTop (mkF m 18 #[.val (.long q4_0), .second, .val (.long (q4_0 / (100 : Int64))), .second] [(.long (1 : Int64)), (.long (q4_0 / (100 : Int64)))])) _
      refine XS.ladd X0.here hx rfl (hb hby d4_18) rfl ?_
      show Steps p.tables e below (s₁.setTop (mkF m 19 #[.val (.long q4_0), .second, .val (.long (q4_0 / (100 : Int64))), .second] [(.long ((q4_0 / (100 : Int64)) + (1 : Int64)))])) _
      refine XS.lstoreN X0.here hx rfl (hb hby d4_19) rfl (l' := #[.val (.long q4_0), .second, .val (.long ((q4_0 / (100 : Int64)) + (1 : Int64))), .second]) rfl ?_
      have q4 : (if (0 : Int64) < (q4_0 - (q4_0 / (100 : Int64)) * (100 : Int64)) then ((q4_0 / (100 : Int64)) + (1 : Int64)) else (q4_0 / (100 : Int64))) = ((q4_0 / (100 : Int64)) + (1 : Int64)) := (if_pos hc1)
      exact castTop (g := (mkF m 20 #[.val (.long q4_0), .second, .val (.long ((q4_0 / (100 : Int64)) + (1 : Int64))), .second] [])) (g' := (mkF m 20 #[.val (.long q4_0), .second, .val (.long (if (0 : Int64) < (q4_0 - (q4_0 / (100 : Int64)) * (100 : Int64)) then ((q4_0 / (100 : Int64)) + (1 : Int64)) else (q4_0 / (100 : Int64)))), .second] [])) (by simp only [q4]) k
    · show Steps p.tables e below (s₁.setTop (mkF m 13 #[.val (.long q4_0), .second, .val (.long (q4_0 / (100 : Int64))), .second] [(.int (lcmpW (q4_0 - (q4_0 / (100 : Int64)) * (100 : Int64)) (0 : Int64)))])) _
      refine XS.ifYes X0.here hx rfl (pc0 := 13) (pc' := 20) rfl (hb hby d4_13) rfl ((if0 _ _).trans (flt (fun q => hc1 ((lw_gt _ _).mp q))).2.2.2) (by decide) (by decide) ?_
      have q5 : (if (0 : Int64) < (q4_0 - (q4_0 / (100 : Int64)) * (100 : Int64)) then ((q4_0 / (100 : Int64)) + (1 : Int64)) else (q4_0 / (100 : Int64))) = (q4_0 / (100 : Int64)) := (if_neg hc1)
      exact castTop (g := (mkF m 20 #[.val (.long q4_0), .second, .val (.long (q4_0 / (100 : Int64))), .second] [])) (g' := (mkF m 20 #[.val (.long q4_0), .second, .val (.long (if (0 : Int64) < (q4_0 - (q4_0 / (100 : Int64)) * (100 : Int64)) then ((q4_0 / (100 : Int64)) + (1 : Int64)) else (q4_0 / (100 : Int64)))), .second] [])) (by simp only [q5]) k)
  obtain ⟨fs, hr, hrun, hended, hW, hsame⟩ := X0.leave (v := some (.long (if (0 : Int64) < (q4_0 - (q4_0 / (100 : Int64)) * (100 : Int64)) then ((q4_0 / (100 : Int64)) + (1 : Int64)) else (q4_0 / (100 : Int64))))) (fun h => by rw [Bd.returns] at h; cases h)
  refine ⟨_, _, pre3 _ ?_, hrun, hended, _, _, rfl, ?_, ⟨_, rfl⟩, hW, hsame.mono (by decide) (by decide)⟩
  · show Steps p.tables e below (s₁.setTop (mkF m 20 #[.val (.long q4_0), .second, .val (.long (if (0 : Int64) < (q4_0 - (q4_0 / (100 : Int64)) * (100 : Int64)) then ((q4_0 / (100 : Int64)) + (1 : Int64)) else (q4_0 / (100 : Int64)))), .second] [])) _
    refine XS.lloadN X0.here hx rfl (hb hby d4_20) rfl ?_
    show Steps p.tables e below (s₁.setTop (mkF m 21 #[.val (.long q4_0), .second, .val (.long (if (0 : Int64) < (q4_0 - (q4_0 / (100 : Int64)) * (100 : Int64)) then ((q4_0 / (100 : Int64)) + (1 : Int64)) else (q4_0 / (100 : Int64)))), .second] [(.long (if (0 : Int64) < (q4_0 - (q4_0 / (100 : Int64)) * (100 : Int64)) then ((q4_0 / (100 : Int64)) + (1 : Int64)) else (q4_0 / (100 : Int64))))])) _
    jvm_step X0.here [X0.here.top, hx, (hb hby d4_21), X0.method', Bd.returns, narrow]
    first | (intro acts; rw [hr _ acts rfl rfl rfl]) | rw [hr _ _ rfl rfl rfl]
    exact Steps.refl _
  · show Q4 Z q4_0 h0 n0 _ s₁.heap _
    rw [e0]
    exact ⟨rfl, N0, rfl⟩
theorem d5_0 : decode prog_63_method_2_code 0 = .ok (.iload_n 1, 1) := by decide +kernel
theorem d5_1 : decode prog_63_method_2_code 1 = .ok (.i2l, 1) := by decide +kernel
theorem d5_2 : decode prog_63_method_2_code 2 = .ok (.ldc2_w 25, 3) := by decide +kernel
theorem d5_5 : decode prog_63_method_2_code 5 = .ok (.lmul, 1) := by decide +kernel
theorem d5_6 : decode prog_63_method_2_code 6 = .ok (.lstore 4, 2) := by decide +kernel
theorem d5_8 : decode prog_63_method_2_code 8 = .ok (.lload 4, 2) := by decide +kernel
theorem d5_10 : decode prog_63_method_2_code 10 = .ok (.aload_n 0, 1) := by decide +kernel
theorem d5_11 : decode prog_63_method_2_code 11 = .ok (.getfield 16, 3) := by decide +kernel
theorem d5_14 : decode prog_63_method_2_code 14 = .ok (.i2l, 1) := by decide +kernel
theorem d5_15 : decode prog_63_method_2_code 15 = .ok (.iload_n 2, 1) := by decide +kernel
theorem d5_16 : decode prog_63_method_2_code 16 = .ok (.i2l, 1) := by decide +kernel
theorem d5_17 : decode prog_63_method_2_code 17 = .ok (.lmul, 1) := by decide +kernel
theorem d5_18 : decode prog_63_method_2_code 18 = .ok (.lcmp, 1) := by decide +kernel
theorem d5_19 : decode prog_63_method_2_code 19 = .ok (.ifCond .lt 21, 3) := by decide +kernel
theorem d5_22 : decode prog_63_method_2_code 22 = .ok (.lload 4, 2) := by decide +kernel
theorem d5_24 : decode prog_63_method_2_code 24 = .ok (.aload_n 0, 1) := by decide +kernel
theorem d5_25 : decode prog_63_method_2_code 25 = .ok (.getfield 22, 3) := by decide +kernel
theorem d5_28 : decode prog_63_method_2_code 28 = .ok (.i2l, 1) := by decide +kernel
theorem d5_29 : decode prog_63_method_2_code 29 = .ok (.iload_n 3, 1) := by decide +kernel
theorem d5_30 : decode prog_63_method_2_code 30 = .ok (.i2l, 1) := by decide +kernel
theorem d5_31 : decode prog_63_method_2_code 31 = .ok (.lmul, 1) := by decide +kernel
theorem d5_32 : decode prog_63_method_2_code 32 = .ok (.lcmp, 1) := by decide +kernel
theorem d5_33 : decode prog_63_method_2_code 33 = .ok (.ifCond .lt 7, 3) := by decide +kernel
theorem d5_36 : decode prog_63_method_2_code 36 = .ok (.iconst 1, 1) := by decide +kernel
theorem d5_37 : decode prog_63_method_2_code 37 = .ok (.goto 4, 3) := by decide +kernel
theorem d5_40 : decode prog_63_method_2_code 40 = .ok (.iconst 0, 1) := by decide +kernel
theorem d5_41 : decode prog_63_method_2_code 41 = .ok (.ireturn, 1) := by decide +kernel
theorem pn_5 : plainName "com/example/shieldwall/shieldwall/rules/UnitVictory" = true := by first | (simp [plainName, overriddenIn]; done) | decide +kernel
theorem ef_5 (m : MethodId) (x0 : Addr) (x1 : Int32) (x2 : Int32) (x3 : Int32) : entryFrame m #[(.ref x0), (.int x1), (.int x2), (.int x3)] 6 = mkF m 0 #[.val (.ref x0), .val (.int x1), .val (.int x2), .val (.int x3), .unset, .unset] [] := by first | (simp [entryFrame, mkF, argsToLocals, Value.category]; done) | rfl
def Q5 (Z : State) (a5_0 : Addr) (p5_1 : Int32) (p5_2 : Int32) (p5_3 : Int32) (w5_percentOfOpponent_a5_0 : Int32) (w5_percentOfSuffered_a5_0 : Int32) (h0 : Heap) (n0 : Nat) (v : Option Value) (h : Heap) (L : List Loc) : Prop := v = some (.int (bI (¬ (((p5_1.toInt64) * (100 : Int64)) < ((w5_percentOfOpponent_a5_0.toInt64) * (p5_2.toInt64))) ∧ (¬ (((p5_1.toInt64) * (100 : Int64)) < ((w5_percentOfSuffered_a5_0.toInt64) * (p5_3.toInt64))))))) ∧ Fr n0 L ∧ h = h0
set_option maxRecDepth 65536 in
set_option maxHeartbeats 40000000 in
theorem rm5 (l : Launch) (Z : State) (a0 : Array Value) (hw : ∀ d ∈ tables_1, d.before a0 Z = true) (ws : List Jvm.Cond) (a5_0 : Addr) (p5_1 : Int32) (p5_2 : Int32) (p5_3 : Int32) (w5_percentOfOpponent_a5_0 : Int32) (w5_percentOfSuffered_a5_0 : Int32) (h0 : Heap) (n0 : Nat) (Z0 : n0 ≤ h0.size) (F_percentOfOpponent_a5_0 : Fld Z h0 a5_0 "com/example/shieldwall/shieldwall/rules/UnitVictory" "percentOfOpponent" "I" (.int w5_percentOfOpponent_a5_0)) (F_percentOfSuffered_a5_0 : Fld Z h0 a5_0 "com/example/shieldwall/shieldwall/rules/UnitVictory" "percentOfSuffered" "I" (.int w5_percentOfSuffered_a5_0)) :
    MetFree l (⟨"com/example/shieldwall/shieldwall/rules/UnitVictory", "wins", "(III)Z"⟩ : MethodName) (head1 (Jvm.Cond.code (⟨"com/example/shieldwall/shieldwall/rules/UnitVictory", "wins", "(III)Z"⟩ : MethodName) prog_63_method_2_code 6 (some .boolean) :: ws) ({ frames := 0, cells := 0, slots := 0, locals := 0 } : Room)) (fun a U => a = #[(.ref a5_0), (.int p5_1), (.int p5_2), (.int p5_3)] ∧ Z.Warmed39 U.vm ∧ U.heap = h0) (fun _ _ _ _ _ => True) (fun _ U o U' => ∃ v L, o = .returned v ∧ Q5 Z a5_0 p5_1 p5_2 p5_3 w5_percentOfOpponent_a5_0 w5_percentOfSuffered_a5_0 h0 n0 v U'.heap L ∧ FrameEnd U o U' L ({ frames := 0, cells := 0, slots := 0, locals := 0 } : Room).cells ({ frames := 0, cells := 0, slots := 0, locals := 0 } : Room).slots) := by
  refine MetFree.of_bodySF (plainFor_of_name pn_5) hisR ?_
  intro p e s m args below meth c s₁ Bd hml0 hP hK
  obtain ⟨rfl, hZ, hh⟩ := hP
  have hW : ∀ (i : Nat) (d : Jvm.Cond), tables_1[i]? = some d → d.before a0 Z = true := fun i d h => hw d (List.mem_of_getElem? h)
  have hx := Bd.exec
  have hby := Bd.bytes
  have hml : c.maxLocals = 6 := hml0
  have hown : s.vm.findClass "com/example/shieldwall/shieldwall/rules/UnitVictory" = some m.cls := findClass_of_methodNamed Bd.named
  have hnm := (name_of_methodNamed Bd.named Bd.method).1
  have X0 : Stand p l e ({ frames := 0, cells := 0, slots := 0, locals := 0 } : Room) s m #[(.ref a5_0), (.int p5_1), (.int p5_2), (.int p5_3)] below meth c s₁ [] 0 0 := Stand.of_body Bd
  have e0 : s₁.heap = h0 := by rw [← hh, Bd.state]; rfl
  have N0 := Fr.nil n0
  have pre0 : ∀ t, Steps p.tables e below (s₁.setTop (mkF m 0 #[.val (.ref a5_0), .val (.int p5_1), .val (.int p5_2), .val (.int p5_3), .unset, .unset] [])) t → Steps p.tables e below (s₁.setTop (entryFrame m #[(.ref a5_0), (.int p5_1), (.int p5_2), (.int p5_3)] 6)) t := fun t k => castTop (ef_5 m a5_0 p5_1 p5_2 p5_3) k
  obtain ⟨T1, X1, e1, st1⟩ := getF X0 hx hZ hown (host := "") (Or.inl (hW 18 _ rfl)) Via.refl e0 F_percentOfOpponent_a5_0 (g := (mkF m 11 #[.val (.ref a5_0), .val (.int p5_1), .val (.int p5_2), .val (.int p5_3), .val (.long ((p5_1.toInt64) * (100 : Int64))), .second] [(.ref a5_0), (.long ((p5_1.toInt64) * (100 : Int64)))])) rfl rfl (hb hby d5_11)
  have pre2 : ∀ t, Steps p.tables e below (T1.setTop (mkF m 14 #[.val (.ref a5_0), .val (.int p5_1), .val (.int p5_2), .val (.int p5_3), .val (.long ((p5_1.toInt64) * (100 : Int64))), .second] [(.int w5_percentOfOpponent_a5_0), (.long ((p5_1.toInt64) * (100 : Int64)))])) t → Steps p.tables e below (s₁.setTop (entryFrame m #[(.ref a5_0), (.int p5_1), (.int p5_2), (.int p5_3)] 6)) t := fun t k => pre0 t (by
    show Steps p.tables e below (s₁.setTop (mkF m 0 #[.val (.ref a5_0), .val (.int p5_1), .val (.int p5_2), .val (.int p5_3), .unset, .unset] [])) _
    refine XS.iloadN X0.here hx rfl (hb hby d5_0) rfl ?_
    show Steps p.tables e below (s₁.setTop (mkF m 1 #[.val (.ref a5_0), .val (.int p5_1), .val (.int p5_2), .val (.int p5_3), .unset, .unset] [(.int p5_1)])) _
    refine XS.i2l X0.here hx rfl (hb hby d5_1) rfl ?_
    show Steps p.tables e below (s₁.setTop (mkF m 2 #[.val (.ref a5_0), .val (.int p5_1), .val (.int p5_2), .val (.int p5_3), .unset, .unset] [(.long (p5_1.toInt64))])) _
    refine X0.ldc2Long hx hown (mvT hZ (hW 32 _ rfl)) (g := (mkF m 2 #[.val (.ref a5_0), .val (.int p5_1), .val (.int p5_2), .val (.int p5_3), .unset, .unset] [(.long (p5_1.toInt64))])) rfl (hb hby d5_2) _ ?_
    show Steps p.tables e below (s₁.setTop (mkF m 5 #[.val (.ref a5_0), .val (.int p5_1), .val (.int p5_2), .val (.int p5_3), .unset, .unset] [(.long (100 : Int64)), (.long (p5_1.toInt64))])) _
    refine XS.lmul X0.here hx rfl (hb hby d5_5) rfl ?_
    show Steps p.tables e below (s₁.setTop (mkF m 6 #[.val (.ref a5_0), .val (.int p5_1), .val (.int p5_2), .val (.int p5_3), .unset, .unset] [(.long ((p5_1.toInt64) * (100 : Int64)))])) _
    refine XS.lstore X0.here hx rfl (hb hby d5_6) rfl (l' := #[.val (.ref a5_0), .val (.int p5_1), .val (.int p5_2), .val (.int p5_3), .val (.long ((p5_1.toInt64) * (100 : Int64))), .second]) rfl ?_
    show Steps p.tables e below (s₁.setTop (mkF m 8 #[.val (.ref a5_0), .val (.int p5_1), .val (.int p5_2), .val (.int p5_3), .val (.long ((p5_1.toInt64) * (100 : Int64))), .second] [])) _
    refine XS.lload X0.here hx rfl (hb hby d5_8) rfl ?_
    show Steps p.tables e below (s₁.setTop (mkF m 10 #[.val (.ref a5_0), .val (.int p5_1), .val (.int p5_2), .val (.int p5_3), .val (.long ((p5_1.toInt64) * (100 : Int64))), .second] [(.long ((p5_1.toInt64) * (100 : Int64)))])) _
    refine XS.aloadN X0.here hx rfl (hb hby d5_10) rfl rfl ?_
    show Steps p.tables e below (s₁.setTop (mkF m 11 #[.val (.ref a5_0), .val (.int p5_1), .val (.int p5_2), .val (.int p5_3), .val (.long ((p5_1.toInt64) * (100 : Int64))), .second] [(.ref a5_0), (.long ((p5_1.toInt64) * (100 : Int64)))])) _
    refine st1 _ ?_
    exact k)
  by_cases hc3 : ((p5_1.toInt64) * (100 : Int64)) < ((w5_percentOfOpponent_a5_0.toInt64) * (p5_2.toInt64))
  · obtain ⟨fs, hr, hrun, hended, hW, hsame⟩ := X1.leave (v := some (.int (0 : Int32))) (fun h => by rw [Bd.returns] at h; cases h)
    refine ⟨_, _, pre2 _ ?_, hrun, hended, _, _, rfl, ?_, ⟨_, rfl⟩, hW, hsame.mono (by decide) (by decide)⟩
    · show Steps p.tables e below (T1.setTop (mkF m 14 #[.val (.ref a5_0), .val (.int p5_1), .val (.int p5_2), .val (.int p5_3), .val (.long ((p5_1.toInt64) * (100 : Int64))), .second] [(.int w5_percentOfOpponent_a5_0), (.long ((p5_1.toInt64) * (100 : Int64)))])) _
      refine XS.i2l X1.here hx rfl (hb hby d5_14) rfl ?_
      show Steps p.tables e below (T1.setTop (mkF m 15 #[.val (.ref a5_0), .val (.int p5_1), .val (.int p5_2), .val (.int p5_3), .val (.long ((p5_1.toInt64) * (100 : Int64))), .second] [(.long (w5_percentOfOpponent_a5_0.toInt64)), (.long ((p5_1.toInt64) * (100 : Int64)))])) _
      refine XS.iloadN X1.here hx rfl (hb hby d5_15) rfl ?_
      show Steps p.tables e below (T1.setTop (mkF m 16 #[.val (.ref a5_0), .val (.int p5_1), .val (.int p5_2), .val (.int p5_3), .val (.long ((p5_1.toInt64) * (100 : Int64))), .second] [(.int p5_2), (.long (w5_percentOfOpponent_a5_0.toInt64)), (.long ((p5_1.toInt64) * (100 : Int64)))])) _
      refine XS.i2l X1.here hx rfl (hb hby d5_16) rfl ?_
      show Steps p.tables e below (T1.setTop (mkF m 17 #[.val (.ref a5_0), .val (.int p5_1), .val (.int p5_2), .val (.int p5_3), .val (.long ((p5_1.toInt64) * (100 : Int64))), .second] [(.long (p5_2.toInt64)), (.long (w5_percentOfOpponent_a5_0.toInt64)), (.long ((p5_1.toInt64) * (100 : Int64)))])) _
      refine XS.lmul X1.here hx rfl (hb hby d5_17) rfl ?_
      show Steps p.tables e below (T1.setTop (mkF m 18 #[.val (.ref a5_0), .val (.int p5_1), .val (.int p5_2), .val (.int p5_3), .val (.long ((p5_1.toInt64) * (100 : Int64))), .second] [(.long ((w5_percentOfOpponent_a5_0.toInt64) * (p5_2.toInt64))), (.long ((p5_1.toInt64) * (100 : Int64)))])) _
      refine XS.lcmp X1.here hx rfl (hb hby d5_18) rfl ?_
      show Steps p.tables e below (T1.setTop (mkF m 19 #[.val (.ref a5_0), .val (.int p5_1), .val (.int p5_2), .val (.int p5_3), .val (.long ((p5_1.toInt64) * (100 : Int64))), .second] [(.int (lcmpW ((p5_1.toInt64) * (100 : Int64)) ((w5_percentOfOpponent_a5_0.toInt64) * (p5_2.toInt64))))])) _
      refine XS.ifYes X1.here hx rfl (pc0 := 19) (pc' := 40) rfl (hb hby d5_19) rfl ((if0 _ _).trans (tlt ((lw_lt _ _).mpr hc3)).1) (by decide) (by decide) ?_
      show Steps p.tables e below (T1.setTop (mkF m 40 #[.val (.ref a5_0), .val (.int p5_1), .val (.int p5_2), .val (.int p5_3), .val (.long ((p5_1.toInt64) * (100 : Int64))), .second] [])) _
      refine XS.iconst X1.here hx rfl (hb hby d5_40) ?_
      show Steps p.tables e below (T1.setTop (mkF m 41 #[.val (.ref a5_0), .val (.int p5_1), .val (.int p5_2), .val (.int p5_3), .val (.long ((p5_1.toInt64) * (100 : Int64))), .second] [(.int (0 : Int32))])) _
      exact retN X1 hx (t := .boolean) Bd.returns (by simp) (hb hby d5_41) hr
    · show Q5 Z a5_0 p5_1 p5_2 p5_3 w5_percentOfOpponent_a5_0 w5_percentOfSuffered_a5_0 h0 n0 _ T1.heap _
      rw [e1]
      exact ⟨(congrArg (fun z => some (Value.int z)) ((bI_f (fun z => z.1 hc3)) : (bI (¬ (((p5_1.toInt64) * (100 : Int64)) < ((w5_percentOfOpponent_a5_0.toInt64) * (p5_2.toInt64))) ∧ (¬ (((p5_1.toInt64) * (100 : Int64)) < ((w5_percentOfSuffered_a5_0.toInt64) * (p5_3.toInt64)))))) = (0 : Int32)).symm), N0, rfl⟩
  · obtain ⟨T4, X4, e4, st4⟩ := getF X1 hx hZ hown (host := "") (Or.inl (hW 20 _ rfl)) Via.refl e1 F_percentOfSuffered_a5_0 (g := (mkF m 25 #[.val (.ref a5_0), .val (.int p5_1), .val (.int p5_2), .val (.int p5_3), .val (.long ((p5_1.toInt64) * (100 : Int64))), .second] [(.ref a5_0), (.long ((p5_1.toInt64) * (100 : Int64)))])) rfl rfl (hb hby d5_25)
    have pre5 : ∀ t, Steps p.tables e below (T4.setTop (mkF m 28 #[.val (.ref a5_0), .val (.int p5_1), .val (.int p5_2), .val (.int p5_3), .val (.long ((p5_1.toInt64) * (100 : Int64))), .second] [(.int w5_percentOfSuffered_a5_0), (.long ((p5_1.toInt64) * (100 : Int64)))])) t → Steps p.tables e below (s₁.setTop (entryFrame m #[(.ref a5_0), (.int p5_1), (.int p5_2), (.int p5_3)] 6)) t := fun t k => pre2 t (by
      show Steps p.tables e below (T1.setTop (mkF m 14 #[.val (.ref a5_0), .val (.int p5_1), .val (.int p5_2), .val (.int p5_3), .val (.long ((p5_1.toInt64) * (100 : Int64))), .second] [(.int w5_percentOfOpponent_a5_0), (.long ((p5_1.toInt64) * (100 : Int64)))])) _
      refine XS.i2l X1.here hx rfl (hb hby d5_14) rfl ?_
      show Steps p.tables e below (T1.setTop (mkF m 15 #[.val (.ref a5_0), .val (.int p5_1), .val (.int p5_2), .val (.int p5_3), .val (.long ((p5_1.toInt64) * (100 : Int64))), .second] [(.long (w5_percentOfOpponent_a5_0.toInt64)), (.long ((p5_1.toInt64) * (100 : Int64)))])) _
      refine XS.iloadN X1.here hx rfl (hb hby d5_15) rfl ?_
      show Steps p.tables e below (T1.setTop (mkF m 16 #[.val (.ref a5_0), .val (.int p5_1), .val (.int p5_2), .val (.int p5_3), .val (.long ((p5_1.toInt64) * (100 : Int64))), .second] [(.int p5_2), (.long (w5_percentOfOpponent_a5_0.toInt64)), (.long ((p5_1.toInt64) * (100 : Int64)))])) _
      refine XS.i2l X1.here hx rfl (hb hby d5_16) rfl ?_
      show Steps p.tables e below (T1.setTop (mkF m 17 #[.val (.ref a5_0), .val (.int p5_1), .val (.int p5_2), .val (.int p5_3), .val (.long ((p5_1.toInt64) * (100 : Int64))), .second] [(.long (p5_2.toInt64)), (.long (w5_percentOfOpponent_a5_0.toInt64)), (.long ((p5_1.toInt64) * (100 : Int64)))])) _
      refine XS.lmul X1.here hx rfl (hb hby d5_17) rfl ?_
      show Steps p.tables e below (T1.setTop (mkF m 18 #[.val (.ref a5_0), .val (.int p5_1), .val (.int p5_2), .val (.int p5_3), .val (.long ((p5_1.toInt64) * (100 : Int64))), .second] [(.long ((w5_percentOfOpponent_a5_0.toInt64) * (p5_2.toInt64))), (.long ((p5_1.toInt64) * (100 : Int64)))])) _
      refine XS.lcmp X1.here hx rfl (hb hby d5_18) rfl ?_
      show Steps p.tables e below (T1.setTop (mkF m 19 #[.val (.ref a5_0), .val (.int p5_1), .val (.int p5_2), .val (.int p5_3), .val (.long ((p5_1.toInt64) * (100 : Int64))), .second] [(.int (lcmpW ((p5_1.toInt64) * (100 : Int64)) ((w5_percentOfOpponent_a5_0.toInt64) * (p5_2.toInt64))))])) _
      refine XS.ifNo X1.here hx rfl (hb hby d5_19) rfl ((if0 _ _).trans (flt (fun q => hc3 ((lw_lt _ _).mp q))).1) ?_
      show Steps p.tables e below (T1.setTop (mkF m 22 #[.val (.ref a5_0), .val (.int p5_1), .val (.int p5_2), .val (.int p5_3), .val (.long ((p5_1.toInt64) * (100 : Int64))), .second] [])) _
      refine XS.lload X1.here hx rfl (hb hby d5_22) rfl ?_
      show Steps p.tables e below (T1.setTop (mkF m 24 #[.val (.ref a5_0), .val (.int p5_1), .val (.int p5_2), .val (.int p5_3), .val (.long ((p5_1.toInt64) * (100 : Int64))), .second] [(.long ((p5_1.toInt64) * (100 : Int64)))])) _
      refine XS.aloadN X1.here hx rfl (hb hby d5_24) rfl rfl ?_
      show Steps p.tables e below (T1.setTop (mkF m 25 #[.val (.ref a5_0), .val (.int p5_1), .val (.int p5_2), .val (.int p5_3), .val (.long ((p5_1.toInt64) * (100 : Int64))), .second] [(.ref a5_0), (.long ((p5_1.toInt64) * (100 : Int64)))])) _
      refine st4 _ ?_
      exact k)
    by_cases hc6 : ((p5_1.toInt64) * (100 : Int64)) < ((w5_percentOfSuffered_a5_0.toInt64) * (p5_3.toInt64))
    · obtain ⟨fs, hr, hrun, hended, hW, hsame⟩ := X4.leave (v := some (.int (0 : Int32))) (fun h => by rw [Bd.returns] at h; cases h)
      refine ⟨_, _, pre5 _ ?_, hrun, hended, _, _, rfl, ?_, ⟨_, rfl⟩, hW, hsame.mono (by decide) (by decide)⟩
      · show Steps p.tables e below (T4.setTop (mkF m 28 #[.val (.ref a5_0), .val (.int p5_1), .val (.int p5_2), .val (.int p5_3), .val (.long ((p5_1.toInt64) * (100 : Int64))), .second] [(.int w5_percentOfSuffered_a5_0), (.long ((p5_1.toInt64) * (100 : Int64)))])) _
        refine XS.i2l X4.here hx rfl (hb hby d5_28) rfl ?_
        show Steps p.tables e below (T4.setTop (mkF m 29 #[.val (.ref a5_0), .val (.int p5_1), .val (.int p5_2), .val (.int p5_3), .val (.long ((p5_1.toInt64) * (100 : Int64))), .second] [(.long (w5_percentOfSuffered_a5_0.toInt64)), (.long ((p5_1.toInt64) * (100 : Int64)))])) _
        refine XS.iloadN X4.here hx rfl (hb hby d5_29) rfl ?_
        show Steps p.tables e below (T4.setTop (mkF m 30 #[.val (.ref a5_0), .val (.int p5_1), .val (.int p5_2), .val (.int p5_3), .val (.long ((p5_1.toInt64) * (100 : Int64))), .second] [(.int p5_3), (.long (w5_percentOfSuffered_a5_0.toInt64)), (.long ((p5_1.toInt64) * (100 : Int64)))])) _
        refine XS.i2l X4.here hx rfl (hb hby d5_30) rfl ?_
        show Steps p.tables e below (T4.setTop (mkF m 31 #[.val (.ref a5_0), .val (.int p5_1), .val (.int p5_2), .val (.int p5_3), .val (.long ((p5_1.toInt64) * (100 : Int64))), .second] [(.long (p5_3.toInt64)), (.long (w5_percentOfSuffered_a5_0.toInt64)), (.long ((p5_1.toInt64) * (100 : Int64)))])) _
        refine XS.lmul X4.here hx rfl (hb hby d5_31) rfl ?_
        show Steps p.tables e below (T4.setTop (mkF m 32 #[.val (.ref a5_0), .val (.int p5_1), .val (.int p5_2), .val (.int p5_3), .val (.long ((p5_1.toInt64) * (100 : Int64))), .second] [(.long ((w5_percentOfSuffered_a5_0.toInt64) * (p5_3.toInt64))), (.long ((p5_1.toInt64) * (100 : Int64)))])) _
        refine XS.lcmp X4.here hx rfl (hb hby d5_32) rfl ?_
        show Steps p.tables e below (T4.setTop (mkF m 33 #[.val (.ref a5_0), .val (.int p5_1), .val (.int p5_2), .val (.int p5_3), .val (.long ((p5_1.toInt64) * (100 : Int64))), .second] [(.int (lcmpW ((p5_1.toInt64) * (100 : Int64)) ((w5_percentOfSuffered_a5_0.toInt64) * (p5_3.toInt64))))])) _
        refine XS.ifYes X4.here hx rfl (pc0 := 33) (pc' := 40) rfl (hb hby d5_33) rfl ((if0 _ _).trans (tlt ((lw_lt _ _).mpr hc6)).1) (by decide) (by decide) ?_
        show Steps p.tables e below (T4.setTop (mkF m 40 #[.val (.ref a5_0), .val (.int p5_1), .val (.int p5_2), .val (.int p5_3), .val (.long ((p5_1.toInt64) * (100 : Int64))), .second] [])) _
        refine XS.iconst X4.here hx rfl (hb hby d5_40) ?_
        show Steps p.tables e below (T4.setTop (mkF m 41 #[.val (.ref a5_0), .val (.int p5_1), .val (.int p5_2), .val (.int p5_3), .val (.long ((p5_1.toInt64) * (100 : Int64))), .second] [(.int (0 : Int32))])) _
        exact retN X4 hx (t := .boolean) Bd.returns (by simp) (hb hby d5_41) hr
      · show Q5 Z a5_0 p5_1 p5_2 p5_3 w5_percentOfOpponent_a5_0 w5_percentOfSuffered_a5_0 h0 n0 _ T4.heap _
        rw [e4]
        exact ⟨(congrArg (fun z => some (Value.int z)) ((bI_f (fun z => (fun q => q hc6) z.2)) : (bI (¬ (((p5_1.toInt64) * (100 : Int64)) < ((w5_percentOfOpponent_a5_0.toInt64) * (p5_2.toInt64))) ∧ (¬ (((p5_1.toInt64) * (100 : Int64)) < ((w5_percentOfSuffered_a5_0.toInt64) * (p5_3.toInt64)))))) = (0 : Int32)).symm), N0, rfl⟩
    · obtain ⟨fs, hr, hrun, hended, hW, hsame⟩ := X4.leave (v := some (.int (1 : Int32))) (fun h => by rw [Bd.returns] at h; cases h)
      refine ⟨_, _, pre5 _ ?_, hrun, hended, _, _, rfl, ?_, ⟨_, rfl⟩, hW, hsame.mono (by decide) (by decide)⟩
      · show Steps p.tables e below (T4.setTop (mkF m 28 #[.val (.ref a5_0), .val (.int p5_1), .val (.int p5_2), .val (.int p5_3), .val (.long ((p5_1.toInt64) * (100 : Int64))), .second] [(.int w5_percentOfSuffered_a5_0), (.long ((p5_1.toInt64) * (100 : Int64)))])) _
        refine XS.i2l X4.here hx rfl (hb hby d5_28) rfl ?_
        show Steps p.tables e below (T4.setTop (mkF m 29 #[.val (.ref a5_0), .val (.int p5_1), .val (.int p5_2), .val (.int p5_3), .val (.long ((p5_1.toInt64) * (100 : Int64))), .second] [(.long (w5_percentOfSuffered_a5_0.toInt64)), (.long ((p5_1.toInt64) * (100 : Int64)))])) _
        refine XS.iloadN X4.here hx rfl (hb hby d5_29) rfl ?_
        show Steps p.tables e below (T4.setTop (mkF m 30 #[.val (.ref a5_0), .val (.int p5_1), .val (.int p5_2), .val (.int p5_3), .val (.long ((p5_1.toInt64) * (100 : Int64))), .second] [(.int p5_3), (.long (w5_percentOfSuffered_a5_0.toInt64)), (.long ((p5_1.toInt64) * (100 : Int64)))])) _
        refine XS.i2l X4.here hx rfl (hb hby d5_30) rfl ?_
        show Steps p.tables e below (T4.setTop (mkF m 31 #[.val (.ref a5_0), .val (.int p5_1), .val (.int p5_2), .val (.int p5_3), .val (.long ((p5_1.toInt64) * (100 : Int64))), .second] [(.long (p5_3.toInt64)), (.long (w5_percentOfSuffered_a5_0.toInt64)), (.long ((p5_1.toInt64) * (100 : Int64)))])) _
        refine XS.lmul X4.here hx rfl (hb hby d5_31) rfl ?_
        show Steps p.tables e below (T4.setTop (mkF m 32 #[.val (.ref a5_0), .val (.int p5_1), .val (.int p5_2), .val (.int p5_3), .val (.long ((p5_1.toInt64) * (100 : Int64))), .second] [(.long ((w5_percentOfSuffered_a5_0.toInt64) * (p5_3.toInt64))), (.long ((p5_1.toInt64) * (100 : Int64)))])) _
        refine XS.lcmp X4.here hx rfl (hb hby d5_32) rfl ?_
        show Steps p.tables e below (T4.setTop (mkF m 33 #[.val (.ref a5_0), .val (.int p5_1), .val (.int p5_2), .val (.int p5_3), .val (.long ((p5_1.toInt64) * (100 : Int64))), .second] [(.int (lcmpW ((p5_1.toInt64) * (100 : Int64)) ((w5_percentOfSuffered_a5_0.toInt64) * (p5_3.toInt64))))])) _
        refine XS.ifNo X4.here hx rfl (hb hby d5_33) rfl ((if0 _ _).trans (flt (fun q => hc6 ((lw_lt _ _).mp q))).1) ?_
        show Steps p.tables e below (T4.setTop (mkF m 36 #[.val (.ref a5_0), .val (.int p5_1), .val (.int p5_2), .val (.int p5_3), .val (.long ((p5_1.toInt64) * (100 : Int64))), .second] [])) _
        refine XS.iconst X4.here hx rfl (hb hby d5_36) ?_
        show Steps p.tables e below (T4.setTop (mkF m 37 #[.val (.ref a5_0), .val (.int p5_1), .val (.int p5_2), .val (.int p5_3), .val (.long ((p5_1.toInt64) * (100 : Int64))), .second] [(.int (1 : Int32))])) _
        refine XS.goto X4.here hx rfl (pc0 := 37) (pc' := 41) rfl (hb hby d5_37) (by decide) (by decide) ?_
        show Steps p.tables e below (T4.setTop (mkF m 41 #[.val (.ref a5_0), .val (.int p5_1), .val (.int p5_2), .val (.int p5_3), .val (.long ((p5_1.toInt64) * (100 : Int64))), .second] [(.int (1 : Int32))])) _
        exact retN X4 hx (t := .boolean) Bd.returns (by simp) (hb hby d5_41) hr
      · show Q5 Z a5_0 p5_1 p5_2 p5_3 w5_percentOfOpponent_a5_0 w5_percentOfSuffered_a5_0 h0 n0 _ T4.heap _
        rw [e4]
        exact ⟨(congrArg (fun z => some (Value.int z)) ((bI_t ⟨hc3, hc6⟩) : (bI (¬ (((p5_1.toInt64) * (100 : Int64)) < ((w5_percentOfOpponent_a5_0.toInt64) * (p5_2.toInt64))) ∧ (¬ (((p5_1.toInt64) * (100 : Int64)) < ((w5_percentOfSuffered_a5_0.toInt64) * (p5_3.toInt64)))))) = (1 : Int32)).symm), N0, rfl⟩
theorem pd_1 : parseMethodDescriptor "(II)V" = some ⟨[.int, .int], none⟩ := by decide +kernel
theorem pd_2 : parseMethodDescriptor "(J)J" = some ⟨[.long], some .long⟩ := by decide +kernel
theorem pd_3 : parseMethodDescriptor "(III)Z" = some ⟨[.int, .int, .int], some .boolean⟩ := by decide +kernel
theorem pn_0 : plainName "com/example/shieldwall/shieldwall/rules/UnitVictoryWinsPinLaw" = true := by first | (simp [plainName, overriddenIn]; done) | decide +kernel
theorem ef_0 (m : MethodId) (x0 : Int32) (x1 : Int32) (x2 : Int32) (x3 : Int32) (x4 : Int32) : entryFrame m #[(.int x0), (.int x1), (.int x2), (.int x3), (.int x4)] maxLocals = mkF m 0 #[.val (.int x0), .val (.int x1), .val (.int x2), .val (.int x3), .val (.int x4), .unset, .unset, .unset, .unset, .unset, .unset, .unset, .unset] [] := by first | (simp [entryFrame, mkF, argsToLocals, Value.category, maxLocals]; done) | rfl
def Q0 (Z : State) (p0_0 : Int32) (p0_1 : Int32) (p0_2 : Int32) (p0_3 : Int32) (p0_4 : Int32) (h0 : Heap) (n0 : Nat) (v : Option Value) (h : Heap) (L : List Loc) : Prop := v = some (.int (1 : Int32)) ∧ Fr n0 L
set_option maxRecDepth 65536 in
set_option maxHeartbeats 40000000 in
theorem rm0 (l : Launch) (Z : State) (a0 : Array Value) (hw : ∀ d ∈ tables_1, d.before a0 Z = true) (ws : List Jvm.Cond) (p0_0 : Int32) (p0_1 : Int32) (p0_2 : Int32) (p0_3 : Int32) (p0_4 : Int32) (h0 : Heap) (n0 : Nat) (Z0 : n0 ≤ h0.size) :
    MetFree l x (head1 (Jvm.Cond.code x code maxLocals ret :: ws) room_1) (fun a U => a = #[(.int p0_0), (.int p0_1), (.int p0_2), (.int p0_3), (.int p0_4)] ∧ Z.Warmed39 U.vm ∧ U.heap = h0) (fun _ _ _ _ _ => True) (fun _ U o U' => ∃ v L, o = .returned v ∧ Q0 Z p0_0 p0_1 p0_2 p0_3 p0_4 h0 n0 v U'.heap L ∧ FrameEnd U o U' L room_1.cells room_1.slots) := by
  refine MetFree.of_bodySF (plainFor_of_name pn_0) hisR ?_
  intro p e s m args below meth c s₁ Bd hml0 hP hK
  obtain ⟨rfl, hZ, hh⟩ := hP
  have hW : ∀ (i : Nat) (d : Jvm.Cond), tables_1[i]? = some d → d.before a0 Z = true := fun i d h => hw d (List.mem_of_getElem? h)
  have hx := Bd.exec
  have hby := Bd.bytes
  have hml : c.maxLocals = 13 := hml0
  have hown : s.vm.findClass "com/example/shieldwall/shieldwall/rules/UnitVictoryWinsPinLaw" = some m.cls := findClass_of_methodNamed Bd.named
  have hnm := (name_of_methodNamed Bd.named Bd.method).1
  have X0 : Stand p l e room_1 s m #[(.int p0_0), (.int p0_1), (.int p0_2), (.int p0_3), (.int p0_4)] below meth c s₁ [] 0 0 := Stand.of_body Bd
  have e0 : s₁.heap = h0 := by rw [← hh, Bd.state]; rfl
  have N0 := Fr.nil n0
  have pre0 : ∀ t, Steps p.tables e below (s₁.setTop (mkF m 0 #[.val (.int p0_0), .val (.int p0_1), .val (.int p0_2), .val (.int p0_3), .val (.int p0_4), .unset, .unset, .unset, .unset, .unset, .unset, .unset, .unset] [])) t → Steps p.tables e below (s₁.setTop (entryFrame m #[(.int p0_0), (.int p0_1), (.int p0_2), (.int p0_3), (.int p0_4)] maxLocals)) t := fun t k => castTop (ef_0 m p0_0 p0_1 p0_2 p0_3 p0_4) k
  have pre1 : ∀ t, Steps p.tables e below (s₁.setTop (mkF m 28 #[.val (.int p0_0), .val (.int p0_1), .val (.int p0_2), .val (.int p0_3), .val (.int p0_4), .val (.int ((1 : Int32) + ((p0_0 &&& (2147483647 : Int32)) - ((p0_0 &&& (2147483647 : Int32)) / (100 : Int32)) * (100 : Int32)))), .val (.int (((101 : Int64) + (((p0_1.toInt64) &&& (2147483647 : Int64)) - (((p0_1.toInt64) &&& (2147483647 : Int64)) / (2147483547 : Int64)) * (2147483547 : Int64))).toInt32)), .unset, .unset, .unset, .unset, .unset, .unset] [])) t → Steps p.tables e below (s₁.setTop (entryFrame m #[(.int p0_0), (.int p0_1), (.int p0_2), (.int p0_3), (.int p0_4)] maxLocals)) t := fun t k => pre0 t (by
    show Steps p.tables e below (s₁.setTop (mkF m 0 #[.val (.int p0_0), .val (.int p0_1), .val (.int p0_2), .val (.int p0_3), .val (.int p0_4), .unset, .unset, .unset, .unset, .unset, .unset, .unset, .unset] [])) _
    refine XS.iconst X0.here hx rfl (hb hby at_0) ?_
    show Steps p.tables e below (s₁.setTop (mkF m 1 #[.val (.int p0_0), .val (.int p0_1), .val (.int p0_2), .val (.int p0_3), .val (.int p0_4), .unset, .unset, .unset, .unset, .unset, .unset, .unset, .unset] [(.int (1 : Int32))])) _
    refine XS.iloadN X0.here hx rfl (hb hby at_1) rfl ?_
    show Steps p.tables e below (s₁.setTop (mkF m 2 #[.val (.int p0_0), .val (.int p0_1), .val (.int p0_2), .val (.int p0_3), .val (.int p0_4), .unset, .unset, .unset, .unset, .unset, .unset, .unset, .unset] [(.int p0_0), (.int (1 : Int32))])) _
    refine X0.ldcInt hx hown (mvT hZ (hW 0 _ rfl)) (g := (mkF m 2 #[.val (.int p0_0), .val (.int p0_1), .val (.int p0_2), .val (.int p0_3), .val (.int p0_4), .unset, .unset, .unset, .unset, .unset, .unset, .unset, .unset] [(.int p0_0), (.int (1 : Int32))])) rfl (hb hby at_2) _ ?_
    show Steps p.tables e below (s₁.setTop (mkF m 4 #[.val (.int p0_0), .val (.int p0_1), .val (.int p0_2), .val (.int p0_3), .val (.int p0_4), .unset, .unset, .unset, .unset, .unset, .unset, .unset, .unset] [(.int (2147483647 : Int32)), (.int p0_0), (.int (1 : Int32))])) _
    refine XS.iand X0.here hx rfl (hb hby at_4) rfl ?_
    show Steps p.tables e below (s₁.setTop (mkF m 5 #[.val (.int p0_0), .val (.int p0_1), .val (.int p0_2), .val (.int p0_3), .val (.int p0_4), .unset, .unset, .unset, .unset, .unset, .unset, .unset, .unset] [(.int (p0_0 &&& (2147483647 : Int32))), (.int (1 : Int32))])) _
    refine XS.bipush X0.here hx rfl (hb hby at_5) ?_
    show Steps p.tables e below (s₁.setTop (mkF m 7 #[.val (.int p0_0), .val (.int p0_1), .val (.int p0_2), .val (.int p0_3), .val (.int p0_4), .unset, .unset, .unset, .unset, .unset, .unset, .unset, .unset] [(.int (100 : Int32)), (.int (p0_0 &&& (2147483647 : Int32))), (.int (1 : Int32))])) _
    refine XS.irem X0.here hx rfl (hb hby at_7) rfl (by decide) ?_
    show Steps p.tables e below (s₁.setTop (mkF m 8 #[.val (.int p0_0), .val (.int p0_1), .val (.int p0_2), .val (.int p0_3), .val (.int p0_4), .unset, .unset, .unset, .unset, .unset, .unset, .unset, .unset] [(.int ((p0_0 &&& (2147483647 : Int32)) - ((p0_0 &&& (2147483647 : Int32)) / (100 : Int32)) * (100 : Int32))), (.int (1 : Int32))])) _
    refine XS.iadd X0.here hx rfl (hb hby at_8) rfl ?_
    show Steps p.tables e below (s₁.setTop (mkF m 9 #[.val (.int p0_0), .val (.int p0_1), .val (.int p0_2), .val (.int p0_3), .val (.int p0_4), .unset, .unset, .unset, .unset, .unset, .unset, .unset, .unset] [(.int ((1 : Int32) + ((p0_0 &&& (2147483647 : Int32)) - ((p0_0 &&& (2147483647 : Int32)) / (100 : Int32)) * (100 : Int32))))])) _
    refine XS.istore X0.here hx rfl (hb hby at_9) rfl (l' := #[.val (.int p0_0), .val (.int p0_1), .val (.int p0_2), .val (.int p0_3), .val (.int p0_4), .val (.int ((1 : Int32) + ((p0_0 &&& (2147483647 : Int32)) - ((p0_0 &&& (2147483647 : Int32)) / (100 : Int32)) * (100 : Int32)))), .unset, .unset, .unset, .unset, .unset, .unset, .unset]) rfl ?_
    show Steps p.tables e below (s₁.setTop (mkF m 11 #[.val (.int p0_0), .val (.int p0_1), .val (.int p0_2), .val (.int p0_3), .val (.int p0_4), .val (.int ((1 : Int32) + ((p0_0 &&& (2147483647 : Int32)) - ((p0_0 &&& (2147483647 : Int32)) / (100 : Int32)) * (100 : Int32)))), .unset, .unset, .unset, .unset, .unset, .unset, .unset] [])) _
    refine X0.ldc2Long hx hown (mvT hZ (hW 1 _ rfl)) (g := (mkF m 11 #[.val (.int p0_0), .val (.int p0_1), .val (.int p0_2), .val (.int p0_3), .val (.int p0_4), .val (.int ((1 : Int32) + ((p0_0 &&& (2147483647 : Int32)) - ((p0_0 &&& (2147483647 : Int32)) / (100 : Int32)) * (100 : Int32)))), .unset, .unset, .unset, .unset, .unset, .unset, .unset] [])) rfl (hb hby at_11) _ ?_
    show Steps p.tables e below (s₁.setTop (mkF m 14 #[.val (.int p0_0), .val (.int p0_1), .val (.int p0_2), .val (.int p0_3), .val (.int p0_4), .val (.int ((1 : Int32) + ((p0_0 &&& (2147483647 : Int32)) - ((p0_0 &&& (2147483647 : Int32)) / (100 : Int32)) * (100 : Int32)))), .unset, .unset, .unset, .unset, .unset, .unset, .unset] [(.long (101 : Int64))])) _
    refine XS.iloadN X0.here hx rfl (hb hby at_14) rfl ?_
    show Steps p.tables e below (s₁.setTop (mkF m 15 #[.val (.int p0_0), .val (.int p0_1), .val (.int p0_2), .val (.int p0_3), .val (.int p0_4), .val (.int ((1 : Int32) + ((p0_0 &&& (2147483647 : Int32)) - ((p0_0 &&& (2147483647 : Int32)) / (100 : Int32)) * (100 : Int32)))), .unset, .unset, .unset, .unset, .unset, .unset, .unset] [(.int p0_1), (.long (101 : Int64))])) _
    refine XS.i2l X0.here hx rfl (hb hby at_15) rfl ?_
    show Steps p.tables e below (s₁.setTop (mkF m 16 #[.val (.int p0_0), .val (.int p0_1), .val (.int p0_2), .val (.int p0_3), .val (.int p0_4), .val (.int ((1 : Int32) + ((p0_0 &&& (2147483647 : Int32)) - ((p0_0 &&& (2147483647 : Int32)) / (100 : Int32)) * (100 : Int32)))), .unset, .unset, .unset, .unset, .unset, .unset, .unset] [(.long (p0_1.toInt64)), (.long (101 : Int64))])) _
    refine X0.ldc2Long hx hown (mvT hZ (hW 2 _ rfl)) (g := (mkF m 16 #[.val (.int p0_0), .val (.int p0_1), .val (.int p0_2), .val (.int p0_3), .val (.int p0_4), .val (.int ((1 : Int32) + ((p0_0 &&& (2147483647 : Int32)) - ((p0_0 &&& (2147483647 : Int32)) / (100 : Int32)) * (100 : Int32)))), .unset, .unset, .unset, .unset, .unset, .unset, .unset] [(.long (p0_1.toInt64)), (.long (101 : Int64))])) rfl (hb hby at_16) _ ?_
    show Steps p.tables e below (s₁.setTop (mkF m 19 #[.val (.int p0_0), .val (.int p0_1), .val (.int p0_2), .val (.int p0_3), .val (.int p0_4), .val (.int ((1 : Int32) + ((p0_0 &&& (2147483647 : Int32)) - ((p0_0 &&& (2147483647 : Int32)) / (100 : Int32)) * (100 : Int32)))), .unset, .unset, .unset, .unset, .unset, .unset, .unset] [(.long (2147483647 : Int64)), (.long (p0_1.toInt64)), (.long (101 : Int64))])) _
    refine XS.land X0.here hx rfl (hb hby at_19) rfl ?_
    show Steps p.tables e below (s₁.setTop (mkF m 20 #[.val (.int p0_0), .val (.int p0_1), .val (.int p0_2), .val (.int p0_3), .val (.int p0_4), .val (.int ((1 : Int32) + ((p0_0 &&& (2147483647 : Int32)) - ((p0_0 &&& (2147483647 : Int32)) / (100 : Int32)) * (100 : Int32)))), .unset, .unset, .unset, .unset, .unset, .unset, .unset] [(.long ((p0_1.toInt64) &&& (2147483647 : Int64))), (.long (101 : Int64))])) _
    refine X0.ldc2Long hx hown (mvT hZ (hW 3 _ rfl)) (g := (mkF m 20 #[.val (.int p0_0), .val (.int p0_1), .val (.int p0_2), .val (.int p0_3), .val (.int p0_4), .val (.int ((1 : Int32) + ((p0_0 &&& (2147483647 : Int32)) - ((p0_0 &&& (2147483647 : Int32)) / (100 : Int32)) * (100 : Int32)))), .unset, .unset, .unset, .unset, .unset, .unset, .unset] [(.long ((p0_1.toInt64) &&& (2147483647 : Int64))), (.long (101 : Int64))])) rfl (hb hby at_20) _ ?_
    show Steps p.tables e below (s₁.setTop (mkF m 23 #[.val (.int p0_0), .val (.int p0_1), .val (.int p0_2), .val (.int p0_3), .val (.int p0_4), .val (.int ((1 : Int32) + ((p0_0 &&& (2147483647 : Int32)) - ((p0_0 &&& (2147483647 : Int32)) / (100 : Int32)) * (100 : Int32)))), .unset, .unset, .unset, .unset, .unset, .unset, .unset] [(.long (2147483547 : Int64)), (.long ((p0_1.toInt64) &&& (2147483647 : Int64))), (.long (101 : Int64))])) _
    refine XS.lrem X0.here hx rfl (hb hby at_23) rfl (by decide) ?_
    show Steps p.tables e below (s₁.setTop (mkF m 24 #[.val (.int p0_0), .val (.int p0_1), .val (.int p0_2), .val (.int p0_3), .val (.int p0_4), .val (.int ((1 : Int32) + ((p0_0 &&& (2147483647 : Int32)) - ((p0_0 &&& (2147483647 : Int32)) / (100 : Int32)) * (100 : Int32)))), .unset, .unset, .unset, .unset, .unset, .unset, .unset] [(.long (((p0_1.toInt64) &&& (2147483647 : Int64)) - (((p0_1.toInt64) &&& (2147483647 : Int64)) / (2147483547 : Int64)) * (2147483547 : Int64))), (.long (101 : Int64))])) _
    refine XS.ladd X0.here hx rfl (hb hby at_24) rfl ?_
    show Steps p.tables e below (s₁.setTop (mkF m 25 #[.val (.int p0_0), .val (.int p0_1), .val (.int p0_2), .val (.int p0_3), .val (.int p0_4), .val (.int ((1 : Int32) + ((p0_0 &&& (2147483647 : Int32)) - ((p0_0 &&& (2147483647 : Int32)) / (100 : Int32)) * (100 : Int32)))), .unset, .unset, .unset, .unset, .unset, .unset, .unset] [(.long ((101 : Int64) + (((p0_1.toInt64) &&& (2147483647 : Int64)) - (((p0_1.toInt64) &&& (2147483647 : Int64)) / (2147483547 : Int64)) * (2147483547 : Int64))))])) _
    refine XS.l2i X0.here hx rfl (hb hby at_25) rfl ?_
    show Steps p.tables e below (s₁.setTop (mkF m 26 #[.val (.int p0_0), .val (.int p0_1), .val (.int p0_2), .val (.int p0_3), .val (.int p0_4), .val (.int ((1 : Int32) + ((p0_0 &&& (2147483647 : Int32)) - ((p0_0 &&& (2147483647 : Int32)) / (100 : Int32)) * (100 : Int32)))), .unset, .unset, .unset, .unset, .unset, .unset, .unset] [(.int (((101 : Int64) + (((p0_1.toInt64) &&& (2147483647 : Int64)) - (((p0_1.toInt64) &&& (2147483647 : Int64)) / (2147483547 : Int64)) * (2147483547 : Int64))).toInt32))])) _
    refine XS.istore X0.here hx rfl (hb hby at_26) rfl (l' := #[.val (.int p0_0), .val (.int p0_1), .val (.int p0_2), .val (.int p0_3), .val (.int p0_4), .val (.int ((1 : Int32) + ((p0_0 &&& (2147483647 : Int32)) - ((p0_0 &&& (2147483647 : Int32)) / (100 : Int32)) * (100 : Int32)))), .val (.int (((101 : Int64) + (((p0_1.toInt64) &&& (2147483647 : Int64)) - (((p0_1.toInt64) &&& (2147483647 : Int64)) / (2147483547 : Int64)) * (2147483547 : Int64))).toInt32)), .unset, .unset, .unset, .unset, .unset, .unset]) rfl ?_
    exact k)
  obtain ⟨PP, hPP⟩ : ∃ z : Int32, z = ((1 : Int32) + ((p0_0 &&& (2147483647 : Int32)) - ((p0_0 &&& (2147483647 : Int32)) / (100 : Int32)) * (100 : Int32))) := ⟨_, rfl⟩
  have pre2 : ∀ t, Steps p.tables e below (s₁.setTop (mkF m 28 #[.val (.int p0_0), .val (.int p0_1), .val (.int p0_2), .val (.int p0_3), .val (.int p0_4), .val (.int PP), .val (.int (((101 : Int64) + (((p0_1.toInt64) &&& (2147483647 : Int64)) - (((p0_1.toInt64) &&& (2147483647 : Int64)) / (2147483547 : Int64)) * (2147483547 : Int64))).toInt32)), .unset, .unset, .unset, .unset, .unset, .unset] [])) t → Steps p.tables e below (s₁.setTop (entryFrame m #[(.int p0_0), (.int p0_1), (.int p0_2), (.int p0_3), (.int p0_4)] maxLocals)) t := fun t k => pre1 t (castTop (by rw [hPP]) k)
  have hP0 : 1 ≤ PP.toInt ∧ PP.toInt ≤ 100 := by
    rw [hPP]
    exact own_p _
  obtain ⟨RR, hRR⟩ : ∃ z : Int32, z = (((101 : Int64) + (((p0_1.toInt64) &&& (2147483647 : Int64)) - (((p0_1.toInt64) &&& (2147483647 : Int64)) / (2147483547 : Int64)) * (2147483547 : Int64))).toInt32) := ⟨_, rfl⟩
  have pre3 : ∀ t, Steps p.tables e below (s₁.setTop (mkF m 28 #[.val (.int p0_0), .val (.int p0_1), .val (.int p0_2), .val (.int p0_3), .val (.int p0_4), .val (.int PP), .val (.int RR), .unset, .unset, .unset, .unset, .unset, .unset] [])) t → Steps p.tables e below (s₁.setTop (entryFrame m #[(.int p0_0), (.int p0_1), (.int p0_2), (.int p0_3), (.int p0_4)] maxLocals)) t := fun t k => pre2 t (castTop (by rw [hRR]) k)
  have hR0 : 100 < RR.toInt := by
    rw [hRR]
    exact own_r _
  obtain ⟨T4, h4, X4, e4, E4, A4, D4, -, st4⟩ := newO X0 hx hZ hown (hW 4 _ rfl) (hW 5 _ rfl) (hW 6 _ rfl) e0 (g := (mkF m 28 #[.val (.int p0_0), .val (.int p0_1), .val (.int p0_2), .val (.int p0_3), .val (.int p0_4), .val (.int PP), .val (.int RR), .unset, .unset, .unset, .unset, .unset, .unset] [])) rfl (hb hby at_28) (by decide) (by decide)
  obtain ⟨b4, g4⟩ : ∃ z, z = h0.size := ⟨_, rfl⟩
  rw [← g4] at A4 D4 st4
  have gz4 : n0 ≤ b4 := Nat.le_trans Z0 (Nat.le_of_eq g4.symm)
  have pre5 : ∀ t, Steps p.tables e below (T4.setTop (mkF m 31 #[.val (.int p0_0), .val (.int p0_1), .val (.int p0_2), .val (.int p0_3), .val (.int p0_4), .val (.int PP), .val (.int RR), .unset, .unset, .unset, .unset, .unset, .unset] [(.ref b4)])) t → Steps p.tables e below (s₁.setTop (entryFrame m #[(.int p0_0), (.int p0_1), (.int p0_2), (.int p0_3), (.int p0_4)] maxLocals)) t := fun t k => pre3 t (by
    show Steps p.tables e below (s₁.setTop (mkF m 28 #[.val (.int p0_0), .val (.int p0_1), .val (.int p0_2), .val (.int p0_3), .val (.int p0_4), .val (.int PP), .val (.int RR), .unset, .unset, .unset, .unset, .unset, .unset] [])) _
    refine st4 _ ?_
    exact k)
  have z6 := Nat.le_trans Z0 E4.1
  have f7 : Fld Z h4 b4 "com/example/shieldwall/shieldwall/rules/UnitVictory" "percentOfOpponent" "I" (.int (0 : Int32)) := D4 (Or.inr (hW 19 _ rfl)) (ty := .int) (by decide)
  have f8 : Fld Z h4 b4 "com/example/shieldwall/shieldwall/rules/UnitVictory" "percentOfSuffered" "I" (.int (0 : Int32)) := D4 (Or.inr (hW 21 _ rfl)) (ty := .int) (by decide)
  have hq10 : ¬ (PP < (1 : Int32)) := by
    intro q
    rw [Int32.lt_iff_toInt_lt] at q
    have e : (1 : Int32).toInt = 1 := by decide
    omega
  have hq11 : ¬ ((100 : Int32) < PP) := by
    intro q
    rw [Int32.lt_iff_toInt_lt] at q
    have e : (100 : Int32).toInt = 100 := by decide
    omega
  have hq12 : (100 : Int32) < RR := by
    rw [Int32.lt_iff_toInt_lt]
    have e : (100 : Int32).toInt = 100 := by decide
    omega
  obtain ⟨_, _, ⟨T9, L9, k9, n9⟩, -, X9, ⟨Lc9, hQ9, l9, y9, z9⟩, st9⟩ := X4.specialBack hx (y := (⟨"com/example/shieldwall/shieldwall/rules/UnitVictory", "<init>", "(II)V"⟩ : MethodName)) rfl hown (mvT hZ (hW 7 _ rfl)) (mvT hZ (hW 8 _ rfl)) (mvT hZ (hW 9 _ rfl)) (by decide) (backOf (W := 1) (rm1 l Z a0 hw [] b4 PP RR (0 : Int32) (0 : Int32) h4 n0 z6 hq10 hq11 hq12 A4 f7 f8 gz4) hZ (hW 9 _ rfl) (hW 6 _ rfl) (by decide) (by decide)) (g := (mkF m 36 #[.val (.int p0_0), .val (.int p0_1), .val (.int p0_2), .val (.int p0_3), .val (.int p0_4), .val (.int PP), .val (.int RR), .unset, .unset, .unset, .unset, .unset, .unset] [(.int RR), (.int PP), (.ref b4), (.ref b4)])) rfl (by rw [hml]; rfl) (Steps.refl _) (a := b4) (argsL := [(.int PP), (.int RR)]) (rest := [(.ref b4)]) (lenOf pd_1 rfl) rfl (by show 2 * 0 + _ ≤ _; exact Nat.le_of_eq rfl) (hb hby at_36) (fun _ _ => ⟨rfl, e4, (by decide : 1 + 0 ≤ _), (by decide : 2 + 0 ≤ _)⟩)
  dsimp only [Pt.U, Pt.locs, Pt.cells, Pt.slots] at X9 l9 y9 z9 st9 hQ9
  subst l9 y9 z9
  obtain ⟨rfl, N9q, K9, r9_0, r9_1, r9_2⟩ := hQ9
  have N13 := Fr.app N0 N9q
  have pre14 : ∀ t, Steps p.tables e below (T9.setTop (mkF m 39 #[.val (.int p0_0), .val (.int p0_1), .val (.int p0_2), .val (.int p0_3), .val (.int p0_4), .val (.int PP), .val (.int RR), .unset, .unset, .unset, .unset, .unset, .unset] [(.ref b4)])) t → Steps p.tables e below (s₁.setTop (entryFrame m #[(.int p0_0), (.int p0_1), (.int p0_2), (.int p0_3), (.int p0_4)] maxLocals)) t := fun t k => pre5 t (by
    show Steps p.tables e below (T4.setTop (mkF m 31 #[.val (.int p0_0), .val (.int p0_1), .val (.int p0_2), .val (.int p0_3), .val (.int p0_4), .val (.int PP), .val (.int RR), .unset, .unset, .unset, .unset, .unset, .unset] [(.ref b4)])) _
    refine XS.dup X4.here hx rfl (hb hby at_31) rfl rfl ?_
    show Steps p.tables e below (T4.setTop (mkF m 32 #[.val (.int p0_0), .val (.int p0_1), .val (.int p0_2), .val (.int p0_3), .val (.int p0_4), .val (.int PP), .val (.int RR), .unset, .unset, .unset, .unset, .unset, .unset] [(.ref b4), (.ref b4)])) _
    refine XS.iload X4.here hx rfl (hb hby at_32) rfl ?_
    show Steps p.tables e below (T4.setTop (mkF m 34 #[.val (.int p0_0), .val (.int p0_1), .val (.int p0_2), .val (.int p0_3), .val (.int p0_4), .val (.int PP), .val (.int RR), .unset, .unset, .unset, .unset, .unset, .unset] [(.int PP), (.ref b4), (.ref b4)])) _
    refine XS.iload X4.here hx rfl (hb hby at_34) rfl ?_
    show Steps p.tables e below (T4.setTop (mkF m 36 #[.val (.int p0_0), .val (.int p0_1), .val (.int p0_2), .val (.int p0_3), .val (.int p0_4), .val (.int PP), .val (.int RR), .unset, .unset, .unset, .unset, .unset, .unset] [(.int RR), (.int PP), (.ref b4), (.ref b4)])) _
    refine st9.trans ?_
    exact k)
  have f15 := A4.keep K9
  have z16 := Nat.le_trans z6 K9.1
  obtain ⟨_, _, ⟨T17, L17, k17, n17⟩, -, X17, ⟨Lc17, hQ17, l17, y17, z17⟩, st17⟩ := Jvm.LawKit.callS X9 hx (y := (⟨"com/example/shieldwall/shieldwall/rules/UnitVictoryWinsPinLaw", "ceilHundredth", "(J)J"⟩ : MethodName)) hown (mvT hZ (hW 22 _ rfl)) (mvT hZ (hW 23 _ rfl)) (mvT hZ (hW 24 _ rfl)) (mvT hZ (hW 25 _ rfl)) (by decide) (backOf (W := 0) (rm4 l Z a0 hw [] ((PP.toInt64) * (p0_3.toInt64)) T9.heap n0 z16 ) hZ (hW 25 _ rfl) (hW 24 _ rfl) (by decide) (by decide)) (g := (mkF m 47 #[.val (.int p0_0), .val (.int p0_1), .val (.int p0_2), .val (.int p0_3), .val (.int p0_4), .val (.int PP), .val (.int RR), .val (.ref b4), .unset, .unset, .unset, .unset, .unset] [(.long ((PP.toInt64) * (p0_3.toInt64)))])) rfl (by rw [hml]; rfl) (argsL := [(.long ((PP.toInt64) * (p0_3.toInt64)))]) (rest := []) (lenOf pd_2 rfl) rfl (by show 2 * 0 + _ ≤ _; exact Nat.le_of_eq rfl) (hb hby at_47) (fun _ _ => ⟨rfl, rfl, (by decide : 1 + 0 ≤ _), (by decide : 2 + 0 ≤ _)⟩)
  dsimp only [Pt.U, Pt.locs, Pt.cells, Pt.slots] at X17 l17 y17 z17 st17 hQ17
  subst l17 y17 z17
  obtain ⟨rfl, N17q, e17⟩ := hQ17
  have N18 := Fr.app N13 N17q
  have pre19 : ∀ t, Steps p.tables e below (T17.setTop (mkF m 50 #[.val (.int p0_0), .val (.int p0_1), .val (.int p0_2), .val (.int p0_3), .val (.int p0_4), .val (.int PP), .val (.int RR), .val (.ref b4), .unset, .unset, .unset, .unset, .unset] [(.long (if (0 : Int64) < (((PP.toInt64) * (p0_3.toInt64)) - (((PP.toInt64) * (p0_3.toInt64)) / (100 : Int64)) * (100 : Int64)) then ((((PP.toInt64) * (p0_3.toInt64)) / (100 : Int64)) + (1 : Int64)) else (((PP.toInt64) * (p0_3.toInt64)) / (100 : Int64))))])) t → Steps p.tables e below (s₁.setTop (entryFrame m #[(.int p0_0), (.int p0_1), (.int p0_2), (.int p0_3), (.int p0_4)] maxLocals)) t := fun t k => pre14 t (by
    show Steps p.tables e below (T9.setTop (mkF m 39 #[.val (.int p0_0), .val (.int p0_1), .val (.int p0_2), .val (.int p0_3), .val (.int p0_4), .val (.int PP), .val (.int RR), .unset, .unset, .unset, .unset, .unset, .unset] [(.ref b4)])) _
    refine XS.astore X9.here hx rfl (hb hby at_39) rfl rfl (l' := #[.val (.int p0_0), .val (.int p0_1), .val (.int p0_2), .val (.int p0_3), .val (.int p0_4), .val (.int PP), .val (.int RR), .val (.ref b4), .unset, .unset, .unset, .unset, .unset]) rfl ?_
    show Steps p.tables e below (T9.setTop (mkF m 41 #[.val (.int p0_0), .val (.int p0_1), .val (.int p0_2), .val (.int p0_3), .val (.int p0_4), .val (.int PP), .val (.int RR), .val (.ref b4), .unset, .unset, .unset, .unset, .unset] [])) _
    refine XS.iload X9.here hx rfl (hb hby at_41) rfl ?_
    show Steps p.tables e below (T9.setTop (mkF m 43 #[.val (.int p0_0), .val (.int p0_1), .val (.int p0_2), .val (.int p0_3), .val (.int p0_4), .val (.int PP), .val (.int RR), .val (.ref b4), .unset, .unset, .unset, .unset, .unset] [(.int PP)])) _
    refine XS.i2l X9.here hx rfl (hb hby at_43) rfl ?_
    show Steps p.tables e below (T9.setTop (mkF m 44 #[.val (.int p0_0), .val (.int p0_1), .val (.int p0_2), .val (.int p0_3), .val (.int p0_4), .val (.int PP), .val (.int RR), .val (.ref b4), .unset, .unset, .unset, .unset, .unset] [(.long (PP.toInt64))])) _
    refine XS.iloadN X9.here hx rfl (hb hby at_44) rfl ?_
    show Steps p.tables e below (T9.setTop (mkF m 45 #[.val (.int p0_0), .val (.int p0_1), .val (.int p0_2), .val (.int p0_3), .val (.int p0_4), .val (.int PP), .val (.int RR), .val (.ref b4), .unset, .unset, .unset, .unset, .unset] [(.int p0_3), (.long (PP.toInt64))])) _
    refine XS.i2l X9.here hx rfl (hb hby at_45) rfl ?_
    show Steps p.tables e below (T9.setTop (mkF m 46 #[.val (.int p0_0), .val (.int p0_1), .val (.int p0_2), .val (.int p0_3), .val (.int p0_4), .val (.int PP), .val (.int RR), .val (.ref b4), .unset, .unset, .unset, .unset, .unset] [(.long (p0_3.toInt64)), (.long (PP.toInt64))])) _
    refine XS.lmul X9.here hx rfl (hb hby at_46) rfl ?_
    show Steps p.tables e below (T9.setTop (mkF m 47 #[.val (.int p0_0), .val (.int p0_1), .val (.int p0_2), .val (.int p0_3), .val (.int p0_4), .val (.int PP), .val (.int RR), .val (.ref b4), .unset, .unset, .unset, .unset, .unset] [(.long ((PP.toInt64) * (p0_3.toInt64)))])) _
    refine st17 _ ?_
    exact k)
  obtain ⟨_, _, ⟨T20, L20, k20, n20⟩, -, X20, ⟨Lc20, hQ20, l20, y20, z20⟩, st20⟩ := Jvm.LawKit.callS X17 hx (y := (⟨"com/example/shieldwall/shieldwall/rules/UnitVictoryWinsPinLaw", "ceilHundredth", "(J)J"⟩ : MethodName)) hown (mvT hZ (hW 22 _ rfl)) (mvT hZ (hW 23 _ rfl)) (mvT hZ (hW 24 _ rfl)) (mvT hZ (hW 25 _ rfl)) (by decide) (backOf (W := 0) (rm4 l Z a0 hw [] ((RR.toInt64) * (p0_4.toInt64)) T9.heap n0 z16 ) hZ (hW 25 _ rfl) (hW 24 _ rfl) (by decide) (by decide)) (g := (mkF m 59 #[.val (.int p0_0), .val (.int p0_1), .val (.int p0_2), .val (.int p0_3), .val (.int p0_4), .val (.int PP), .val (.int RR), .val (.ref b4), .val (.long (if (0 : Int64) < (((PP.toInt64) * (p0_3.toInt64)) - (((PP.toInt64) * (p0_3.toInt64)) / (100 : Int64)) * (100 : Int64)) then ((((PP.toInt64) * (p0_3.toInt64)) / (100 : Int64)) + (1 : Int64)) else (((PP.toInt64) * (p0_3.toInt64)) / (100 : Int64)))), .second, .unset, .unset, .unset] [(.long ((RR.toInt64) * (p0_4.toInt64)))])) rfl (by rw [hml]; rfl) (argsL := [(.long ((RR.toInt64) * (p0_4.toInt64)))]) (rest := []) (lenOf pd_2 rfl) rfl (by show 2 * 0 + _ ≤ _; exact Nat.le_of_eq rfl) (hb hby at_59) (fun _ _ => ⟨rfl, e17, (by decide : 1 + 0 ≤ _), (by decide : 2 + 0 ≤ _)⟩)
  dsimp only [Pt.U, Pt.locs, Pt.cells, Pt.slots] at X20 l20 y20 z20 st20 hQ20
  subst l20 y20 z20
  obtain ⟨rfl, N20q, e20⟩ := hQ20
  have N21 := Fr.app N18 N20q
  have pre22 : ∀ t, Steps p.tables e below (T20.setTop (mkF m 62 #[.val (.int p0_0), .val (.int p0_1), .val (.int p0_2), .val (.int p0_3), .val (.int p0_4), .val (.int PP), .val (.int RR), .val (.ref b4), .val (.long (if (0 : Int64) < (((PP.toInt64) * (p0_3.toInt64)) - (((PP.toInt64) * (p0_3.toInt64)) / (100 : Int64)) * (100 : Int64)) then ((((PP.toInt64) * (p0_3.toInt64)) / (100 : Int64)) + (1 : Int64)) else (((PP.toInt64) * (p0_3.toInt64)) / (100 : Int64)))), .second, .unset, .unset, .unset] [(.long (if (0 : Int64) < (((RR.toInt64) * (p0_4.toInt64)) - (((RR.toInt64) * (p0_4.toInt64)) / (100 : Int64)) * (100 : Int64)) then ((((RR.toInt64) * (p0_4.toInt64)) / (100 : Int64)) + (1 : Int64)) else (((RR.toInt64) * (p0_4.toInt64)) / (100 : Int64))))])) t → Steps p.tables e below (s₁.setTop (entryFrame m #[(.int p0_0), (.int p0_1), (.int p0_2), (.int p0_3), (.int p0_4)] maxLocals)) t := fun t k => pre19 t (by
    show Steps p.tables e below (T17.setTop (mkF m 50 #[.val (.int p0_0), .val (.int p0_1), .val (.int p0_2), .val (.int p0_3), .val (.int p0_4), .val (.int PP), .val (.int RR), .val (.ref b4), .unset, .unset, .unset, .unset, .unset] [(.long (if (0 : Int64) < (((PP.toInt64) * (p0_3.toInt64)) - (((PP.toInt64) * (p0_3.toInt64)) / (100 : Int64)) * (100 : Int64)) then ((((PP.toInt64) * (p0_3.toInt64)) / (100 : Int64)) + (1 : Int64)) else (((PP.toInt64) * (p0_3.toInt64)) / (100 : Int64))))])) _
    refine XS.lstore X17.here hx rfl (hb hby at_50) rfl (l' := #[.val (.int p0_0), .val (.int p0_1), .val (.int p0_2), .val (.int p0_3), .val (.int p0_4), .val (.int PP), .val (.int RR), .val (.ref b4), .val (.long (if (0 : Int64) < (((PP.toInt64) * (p0_3.toInt64)) - (((PP.toInt64) * (p0_3.toInt64)) / (100 : Int64)) * (100 : Int64)) then ((((PP.toInt64) * (p0_3.toInt64)) / (100 : Int64)) + (1 : Int64)) else (((PP.toInt64) * (p0_3.toInt64)) / (100 : Int64)))), .second, .unset, .unset, .unset]) rfl ?_
    show Steps p.tables e below (T17.setTop (mkF m 52 #[.val (.int p0_0), .val (.int p0_1), .val (.int p0_2), .val (.int p0_3), .val (.int p0_4), .val (.int PP), .val (.int RR), .val (.ref b4), .val (.long (if (0 : Int64) < (((PP.toInt64) * (p0_3.toInt64)) - (((PP.toInt64) * (p0_3.toInt64)) / (100 : Int64)) * (100 : Int64)) then ((((PP.toInt64) * (p0_3.toInt64)) / (100 : Int64)) + (1 : Int64)) else (((PP.toInt64) * (p0_3.toInt64)) / (100 : Int64)))), .second, .unset, .unset, .unset] [])) _
    refine XS.iload X17.here hx rfl (hb hby at_52) rfl ?_
    show Steps p.tables e below (T17.setTop (mkF m 54 #[.val (.int p0_0), .val (.int p0_1), .val (.int p0_2), .val (.int p0_3), .val (.int p0_4), .val (.int PP), .val (.int RR), .val (.ref b4), .val (.long (if (0 : Int64) < (((PP.toInt64) * (p0_3.toInt64)) - (((PP.toInt64) * (p0_3.toInt64)) / (100 : Int64)) * (100 : Int64)) then ((((PP.toInt64) * (p0_3.toInt64)) / (100 : Int64)) + (1 : Int64)) else (((PP.toInt64) * (p0_3.toInt64)) / (100 : Int64)))), .second, .unset, .unset, .unset] [(.int RR)])) _
    refine XS.i2l X17.here hx rfl (hb hby at_54) rfl ?_
    show Steps p.tables e below (T17.setTop (mkF m 55 #[.val (.int p0_0), .val (.int p0_1), .val (.int p0_2), .val (.int p0_3), .val (.int p0_4), .val (.int PP), .val (.int RR), .val (.ref b4), .val (.long (if (0 : Int64) < (((PP.toInt64) * (p0_3.toInt64)) - (((PP.toInt64) * (p0_3.toInt64)) / (100 : Int64)) * (100 : Int64)) then ((((PP.toInt64) * (p0_3.toInt64)) / (100 : Int64)) + (1 : Int64)) else (((PP.toInt64) * (p0_3.toInt64)) / (100 : Int64)))), .second, .unset, .unset, .unset] [(.long (RR.toInt64))])) _
    refine XS.iload X17.here hx rfl (hb hby at_55) rfl ?_
    show Steps p.tables e below (T17.setTop (mkF m 57 #[.val (.int p0_0), .val (.int p0_1), .val (.int p0_2), .val (.int p0_3), .val (.int p0_4), .val (.int PP), .val (.int RR), .val (.ref b4), .val (.long (if (0 : Int64) < (((PP.toInt64) * (p0_3.toInt64)) - (((PP.toInt64) * (p0_3.toInt64)) / (100 : Int64)) * (100 : Int64)) then ((((PP.toInt64) * (p0_3.toInt64)) / (100 : Int64)) + (1 : Int64)) else (((PP.toInt64) * (p0_3.toInt64)) / (100 : Int64)))), .second, .unset, .unset, .unset] [(.int p0_4), (.long (RR.toInt64))])) _
    refine XS.i2l X17.here hx rfl (hb hby at_57) rfl ?_
    show Steps p.tables e below (T17.setTop (mkF m 58 #[.val (.int p0_0), .val (.int p0_1), .val (.int p0_2), .val (.int p0_3), .val (.int p0_4), .val (.int PP), .val (.int RR), .val (.ref b4), .val (.long (if (0 : Int64) < (((PP.toInt64) * (p0_3.toInt64)) - (((PP.toInt64) * (p0_3.toInt64)) / (100 : Int64)) * (100 : Int64)) then ((((PP.toInt64) * (p0_3.toInt64)) / (100 : Int64)) + (1 : Int64)) else (((PP.toInt64) * (p0_3.toInt64)) / (100 : Int64)))), .second, .unset, .unset, .unset] [(.long (p0_4.toInt64)), (.long (RR.toInt64))])) _
    refine XS.lmul X17.here hx rfl (hb hby at_58) rfl ?_
    show Steps p.tables e below (T17.setTop (mkF m 59 #[.val (.int p0_0), .val (.int p0_1), .val (.int p0_2), .val (.int p0_3), .val (.int p0_4), .val (.int PP), .val (.int RR), .val (.ref b4), .val (.long (if (0 : Int64) < (((PP.toInt64) * (p0_3.toInt64)) - (((PP.toInt64) * (p0_3.toInt64)) / (100 : Int64)) * (100 : Int64)) then ((((PP.toInt64) * (p0_3.toInt64)) / (100 : Int64)) + (1 : Int64)) else (((PP.toInt64) * (p0_3.toInt64)) / (100 : Int64)))), .second, .unset, .unset, .unset] [(.long ((RR.toInt64) * (p0_4.toInt64)))])) _
    refine st20 _ ?_
    exact k)
  have pre25 : ∀ t, Steps p.tables e below (T20.setTop (mkF m 69 #[.val (.int p0_0), .val (.int p0_1), .val (.int p0_2), .val (.int p0_3), .val (.int p0_4), .val (.int PP), .val (.int RR), .val (.ref b4), .val (.long (if (0 : Int64) < (((PP.toInt64) * (p0_3.toInt64)) - (((PP.toInt64) * (p0_3.toInt64)) / (100 : Int64)) * (100 : Int64)) then ((((PP.toInt64) * (p0_3.toInt64)) / (100 : Int64)) + (1 : Int64)) else (((PP.toInt64) * (p0_3.toInt64)) / (100 : Int64)))), .second, .val (.long (if (0 : Int64) < (((RR.toInt64) * (p0_4.toInt64)) - (((RR.toInt64) * (p0_4.toInt64)) / (100 : Int64)) * (100 : Int64)) then ((((RR.toInt64) * (p0_4.toInt64)) / (100 : Int64)) + (1 : Int64)) else (((RR.toInt64) * (p0_4.toInt64)) / (100 : Int64)))), .second, .unset] [(.int (lcmpW (p0_2.toInt64) (if (0 : Int64) < (((PP.toInt64) * (p0_3.toInt64)) - (((PP.toInt64) * (p0_3.toInt64)) / (100 : Int64)) * (100 : Int64)) then ((((PP.toInt64) * (p0_3.toInt64)) / (100 : Int64)) + (1 : Int64)) else (((PP.toInt64) * (p0_3.toInt64)) / (100 : Int64)))))])) t → Steps p.tables e below (s₁.setTop (entryFrame m #[(.int p0_0), (.int p0_1), (.int p0_2), (.int p0_3), (.int p0_4)] maxLocals)) t := fun t k => pre22 t (by
    show Steps p.tables e below (T20.setTop (mkF m 62 #[.val (.int p0_0), .val (.int p0_1), .val (.int p0_2), .val (.int p0_3), .val (.int p0_4), .val (.int PP), .val (.int RR), .val (.ref b4), .val (.long (if (0 : Int64) < (((PP.toInt64) * (p0_3.toInt64)) - (((PP.toInt64) * (p0_3.toInt64)) / (100 : Int64)) * (100 : Int64)) then ((((PP.toInt64) * (p0_3.toInt64)) / (100 : Int64)) + (1 : Int64)) else (((PP.toInt64) * (p0_3.toInt64)) / (100 : Int64)))), .second, .unset, .unset, .unset] [(.long (if (0 : Int64) < (((RR.toInt64) * (p0_4.toInt64)) - (((RR.toInt64) * (p0_4.toInt64)) / (100 : Int64)) * (100 : Int64)) then ((((RR.toInt64) * (p0_4.toInt64)) / (100 : Int64)) + (1 : Int64)) else (((RR.toInt64) * (p0_4.toInt64)) / (100 : Int64))))])) _
    refine XS.lstore X20.here hx rfl (hb hby at_62) rfl (l' := #[.val (.int p0_0), .val (.int p0_1), .val (.int p0_2), .val (.int p0_3), .val (.int p0_4), .val (.int PP), .val (.int RR), .val (.ref b4), .val (.long (if (0 : Int64) < (((PP.toInt64) * (p0_3.toInt64)) - (((PP.toInt64) * (p0_3.toInt64)) / (100 : Int64)) * (100 : Int64)) then ((((PP.toInt64) * (p0_3.toInt64)) / (100 : Int64)) + (1 : Int64)) else (((PP.toInt64) * (p0_3.toInt64)) / (100 : Int64)))), .second, .val (.long (if (0 : Int64) < (((RR.toInt64) * (p0_4.toInt64)) - (((RR.toInt64) * (p0_4.toInt64)) / (100 : Int64)) * (100 : Int64)) then ((((RR.toInt64) * (p0_4.toInt64)) / (100 : Int64)) + (1 : Int64)) else (((RR.toInt64) * (p0_4.toInt64)) / (100 : Int64)))), .second, .unset]) rfl ?_
    show Steps p.tables e below (T20.setTop (mkF m 64 #[.val (.int p0_0), .val (.int p0_1), .val (.int p0_2), .val (.int p0_3), .val (.int p0_4), .val (.int PP), .val (.int RR), .val (.ref b4), .val (.long (if (0 : Int64) < (((PP.toInt64) * (p0_3.toInt64)) - (((PP.toInt64) * (p0_3.toInt64)) / (100 : Int64)) * (100 : Int64)) then ((((PP.toInt64) * (p0_3.toInt64)) / (100 : Int64)) + (1 : Int64)) else (((PP.toInt64) * (p0_3.toInt64)) / (100 : Int64)))), .second, .val (.long (if (0 : Int64) < (((RR.toInt64) * (p0_4.toInt64)) - (((RR.toInt64) * (p0_4.toInt64)) / (100 : Int64)) * (100 : Int64)) then ((((RR.toInt64) * (p0_4.toInt64)) / (100 : Int64)) + (1 : Int64)) else (((RR.toInt64) * (p0_4.toInt64)) / (100 : Int64)))), .second, .unset] [])) _
    refine XS.iloadN X20.here hx rfl (hb hby at_64) rfl ?_
    show Steps p.tables e below (T20.setTop (mkF m 65 #[.val (.int p0_0), .val (.int p0_1), .val (.int p0_2), .val (.int p0_3), .val (.int p0_4), .val (.int PP), .val (.int RR), .val (.ref b4), .val (.long (if (0 : Int64) < (((PP.toInt64) * (p0_3.toInt64)) - (((PP.toInt64) * (p0_3.toInt64)) / (100 : Int64)) * (100 : Int64)) then ((((PP.toInt64) * (p0_3.toInt64)) / (100 : Int64)) + (1 : Int64)) else (((PP.toInt64) * (p0_3.toInt64)) / (100 : Int64)))), .second, .val (.long (if (0 : Int64) < (((RR.toInt64) * (p0_4.toInt64)) - (((RR.toInt64) * (p0_4.toInt64)) / (100 : Int64)) * (100 : Int64)) then ((((RR.toInt64) * (p0_4.toInt64)) / (100 : Int64)) + (1 : Int64)) else (((RR.toInt64) * (p0_4.toInt64)) / (100 : Int64)))), .second, .unset] [(.int p0_2)])) _
    refine XS.i2l X20.here hx rfl (hb hby at_65) rfl ?_
    show Steps p.tables e below (T20.setTop (mkF m 66 #[.val (.int p0_0), .val (.int p0_1), .val (.int p0_2), .val (.int p0_3), .val (.int p0_4), .val (.int PP), .val (.int RR), .val (.ref b4), .val (.long (if (0 : Int64) < (((PP.toInt64) * (p0_3.toInt64)) - (((PP.toInt64) * (p0_3.toInt64)) / (100 : Int64)) * (100 : Int64)) then ((((PP.toInt64) * (p0_3.toInt64)) / (100 : Int64)) + (1 : Int64)) else (((PP.toInt64) * (p0_3.toInt64)) / (100 : Int64)))), .second, .val (.long (if (0 : Int64) < (((RR.toInt64) * (p0_4.toInt64)) - (((RR.toInt64) * (p0_4.toInt64)) / (100 : Int64)) * (100 : Int64)) then ((((RR.toInt64) * (p0_4.toInt64)) / (100 : Int64)) + (1 : Int64)) else (((RR.toInt64) * (p0_4.toInt64)) / (100 : Int64)))), .second, .unset] [(.long (p0_2.toInt64))])) _
    refine XS.lload X20.here hx rfl (hb hby at_66) rfl ?_
    show Steps p.tables e below (T20.setTop (mkF m 68 #[.val (.int p0_0), .val (.int p0_1), .val (.int p0_2), .val (.int p0_3), .val (.int p0_4), .val (.int PP), .val (.int RR), .val (.ref b4), .val (.long (if (0 : Int64) < (((PP.toInt64) * (p0_3.toInt64)) - (((PP.toInt64) * (p0_3.toInt64)) / (100 : Int64)) * (100 : Int64)) then ((((PP.toInt64) * (p0_3.toInt64)) / (100 : Int64)) + (1 : Int64)) else (((PP.toInt64) * (p0_3.toInt64)) / (100 : Int64)))), .second, .val (.long (if (0 : Int64) < (((RR.toInt64) * (p0_4.toInt64)) - (((RR.toInt64) * (p0_4.toInt64)) / (100 : Int64)) * (100 : Int64)) then ((((RR.toInt64) * (p0_4.toInt64)) / (100 : Int64)) + (1 : Int64)) else (((RR.toInt64) * (p0_4.toInt64)) / (100 : Int64)))), .second, .unset] [(.long (if (0 : Int64) < (((PP.toInt64) * (p0_3.toInt64)) - (((PP.toInt64) * (p0_3.toInt64)) / (100 : Int64)) * (100 : Int64)) then ((((PP.toInt64) * (p0_3.toInt64)) / (100 : Int64)) + (1 : Int64)) else (((PP.toInt64) * (p0_3.toInt64)) / (100 : Int64)))), (.long (p0_2.toInt64))])) _
    refine XS.lcmp X20.here hx rfl (hb hby at_68) rfl ?_
    exact k)
  have pre26 : ∀ t, Steps p.tables e below (T20.setTop (mkF m 85 #[.val (.int p0_0), .val (.int p0_1), .val (.int p0_2), .val (.int p0_3), .val (.int p0_4), .val (.int PP), .val (.int RR), .val (.ref b4), .val (.long (if (0 : Int64) < (((PP.toInt64) * (p0_3.toInt64)) - (((PP.toInt64) * (p0_3.toInt64)) / (100 : Int64)) * (100 : Int64)) then ((((PP.toInt64) * (p0_3.toInt64)) / (100 : Int64)) + (1 : Int64)) else (((PP.toInt64) * (p0_3.toInt64)) / (100 : Int64)))), .second, .val (.long (if (0 : Int64) < (((RR.toInt64) * (p0_4.toInt64)) - (((RR.toInt64) * (p0_4.toInt64)) / (100 : Int64)) * (100 : Int64)) then ((((RR.toInt64) * (p0_4.toInt64)) / (100 : Int64)) + (1 : Int64)) else (((RR.toInt64) * (p0_4.toInt64)) / (100 : Int64)))), .second, .unset] [(.int (bI (¬ ((p0_2.toInt64) < (if (0 : Int64) < (((PP.toInt64) * (p0_3.toInt64)) - (((PP.toInt64) * (p0_3.toInt64)) / (100 : Int64)) * (100 : Int64)) then ((((PP.toInt64) * (p0_3.toInt64)) / (100 : Int64)) + (1 : Int64)) else (((PP.toInt64) * (p0_3.toInt64)) / (100 : Int64)))) ∧ (¬ ((p0_2.toInt64) < (if (0 : Int64) < (((RR.toInt64) * (p0_4.toInt64)) - (((RR.toInt64) * (p0_4.toInt64)) / (100 : Int64)) * (100 : Int64)) then ((((RR.toInt64) * (p0_4.toInt64)) / (100 : Int64)) + (1 : Int64)) else (((RR.toInt64) * (p0_4.toInt64)) / (100 : Int64))))))))])) t → Steps p.tables e below (s₁.setTop (entryFrame m #[(.int p0_0), (.int p0_1), (.int p0_2), (.int p0_3), (.int p0_4)] maxLocals)) t := fun t k => pre25 t (by
    by_cases hc23 : (p0_2.toInt64) < (if (0 : Int64) < (((PP.toInt64) * (p0_3.toInt64)) - (((PP.toInt64) * (p0_3.toInt64)) / (100 : Int64)) * (100 : Int64)) then ((((PP.toInt64) * (p0_3.toInt64)) / (100 : Int64)) + (1 : Int64)) else (((PP.toInt64) * (p0_3.toInt64)) / (100 : Int64)))
    · show Steps p.tables e below (T20.setTop (mkF m 69 #[.val (.int p0_0), .val (.int p0_1), .val (.int p0_2), .val (.int p0_3), .val (.int p0_4), .val (.int PP), .val (.int RR), .val (.ref b4), .val (.long (if (0 : Int64) < (((PP.toInt64) * (p0_3.toInt64)) - (((PP.toInt64) * (p0_3.toInt64)) / (100 : Int64)) * (100 : Int64)) then ((((PP.toInt64) * (p0_3.toInt64)) / (100 : Int64)) + (1 : Int64)) else (((PP.toInt64) * (p0_3.toInt64)) / (100 : Int64)))), .second, .val (.long (if (0 : Int64) < (((RR.toInt64) * (p0_4.toInt64)) - (((RR.toInt64) * (p0_4.toInt64)) / (100 : Int64)) * (100 : Int64)) then ((((RR.toInt64) * (p0_4.toInt64)) / (100 : Int64)) + (1 : Int64)) else (((RR.toInt64) * (p0_4.toInt64)) / (100 : Int64)))), .second, .unset] [(.int (lcmpW (p0_2.toInt64) (if (0 : Int64) < (((PP.toInt64) * (p0_3.toInt64)) - (((PP.toInt64) * (p0_3.toInt64)) / (100 : Int64)) * (100 : Int64)) then ((((PP.toInt64) * (p0_3.toInt64)) / (100 : Int64)) + (1 : Int64)) else (((PP.toInt64) * (p0_3.toInt64)) / (100 : Int64)))))])) _
      refine XS.ifYes X20.here hx rfl (pc0 := 69) (pc' := 84) rfl (hb hby at_69) rfl ((if0 _ _).trans (tlt ((lw_lt _ _).mpr hc23)).1) (by decide) (by decide) ?_
      show Steps p.tables e below (T20.setTop (mkF m 84 #[.val (.int p0_0), .val (.int p0_1), .val (.int p0_2), .val (.int p0_3), .val (.int p0_4), .val (.int PP), .val (.int RR), .val (.ref b4), .val (.long (if (0 : Int64) < (((PP.toInt64) * (p0_3.toInt64)) - (((PP.toInt64) * (p0_3.toInt64)) / (100 : Int64)) * (100 : Int64)) then ((((PP.toInt64) * (p0_3.toInt64)) / (100 : Int64)) + (1 : Int64)) else (((PP.toInt64) * (p0_3.toInt64)) / (100 : Int64)))), .second, .val (.long (if (0 : Int64) < (((RR.toInt64) * (p0_4.toInt64)) - (((RR.toInt64) * (p0_4.toInt64)) / (100 : Int64)) * (100 : Int64)) then ((((RR.toInt64) * (p0_4.toInt64)) / (100 : Int64)) + (1 : Int64)) else (((RR.toInt64) * (p0_4.toInt64)) / (100 : Int64)))), .second, .unset] [])) _
      refine XS.iconst X20.here hx rfl (hb hby at_84) ?_
      have q27 : (bI (¬ ((p0_2.toInt64) < (if (0 : Int64) < (((PP.toInt64) * (p0_3.toInt64)) - (((PP.toInt64) * (p0_3.toInt64)) / (100 : Int64)) * (100 : Int64)) then ((((PP.toInt64) * (p0_3.toInt64)) / (100 : Int64)) + (1 : Int64)) else (((PP.toInt64) * (p0_3.toInt64)) / (100 : Int64)))) ∧ (¬ ((p0_2.toInt64) < (if (0 : Int64) < (((RR.toInt64) * (p0_4.toInt64)) - (((RR.toInt64) * (p0_4.toInt64)) / (100 : Int64)) * (100 : Int64)) then ((((RR.toInt64) * (p0_4.toInt64)) / (100 : Int64)) + (1 : Int64)) else (((RR.toInt64) * (p0_4.toInt64)) / (100 : Int64))))))) = (0 : Int32) := (bI_f (fun z => z.1 hc23))
      exact castTop (g := (mkF m 85 #[.val (.int p0_0), .val (.int p0_1), .val (.int p0_2), .val (.int p0_3), .val (.int p0_4), .val (.int PP), .val (.int RR), .val (.ref b4), .val (.long (if (0 : Int64) < (((PP.toInt64) * (p0_3.toInt64)) - (((PP.toInt64) * (p0_3.toInt64)) / (100 : Int64)) * (100 : Int64)) then ((((PP.toInt64) * (p0_3.toInt64)) / (100 : Int64)) + (1 : Int64)) else (((PP.toInt64) * (p0_3.toInt64)) / (100 : Int64)))), .second, .val (.long (if (0 : Int64) < (((RR.toInt64) * (p0_4.toInt64)) - (((RR.toInt64) * (p0_4.toInt64)) / (100 : Int64)) * (100 : Int64)) then ((((RR.toInt64) * (p0_4.toInt64)) / (100 : Int64)) + (1 : Int64)) else (((RR.toInt64) * (p0_4.toInt64)) / (100 : Int64)))), .second, .unset] [(.int (0 : Int32))])) (g' := (mkF m 85 #[.val (.int p0_0), .val (.int p0_1), .val (.int p0_2), .val (.int p0_3), .val (.int p0_4), .val (.int PP), .val (.int RR), .val (.ref b4), .val (.long (if (0 : Int64) < (((PP.toInt64) * (p0_3.toInt64)) - (((PP.toInt64) * (p0_3.toInt64)) / (100 : Int64)) * (100 : Int64)) then ((((PP.toInt64) * (p0_3.toInt64)) / (100 : Int64)) + (1 : Int64)) else (((PP.toInt64) * (p0_3.toInt64)) / (100 : Int64)))), .second, .val (.long (if (0 : Int64) < (((RR.toInt64) * (p0_4.toInt64)) - (((RR.toInt64) * (p0_4.toInt64)) / (100 : Int64)) * (100 : Int64)) then ((((RR.toInt64) * (p0_4.toInt64)) / (100 : Int64)) + (1 : Int64)) else (((RR.toInt64) * (p0_4.toInt64)) / (100 : Int64)))), .second, .unset] [(.int (bI (¬ ((p0_2.toInt64) < (if (0 : Int64) < (((PP.toInt64) * (p0_3.toInt64)) - (((PP.toInt64) * (p0_3.toInt64)) / (100 : Int64)) * (100 : Int64)) then ((((PP.toInt64) * (p0_3.toInt64)) / (100 : Int64)) + (1 : Int64)) else (((PP.toInt64) * (p0_3.toInt64)) / (100 : Int64)))) ∧ (¬ ((p0_2.toInt64) < (if (0 : Int64) < (((RR.toInt64) * (p0_4.toInt64)) - (((RR.toInt64) * (p0_4.toInt64)) / (100 : Int64)) * (100 : Int64)) then ((((RR.toInt64) * (p0_4.toInt64)) / (100 : Int64)) + (1 : Int64)) else (((RR.toInt64) * (p0_4.toInt64)) / (100 : Int64))))))))])) (by simp only [q27]) k
    · show Steps p.tables e below (T20.setTop (mkF m 69 #[.val (.int p0_0), .val (.int p0_1), .val (.int p0_2), .val (.int p0_3), .val (.int p0_4), .val (.int PP), .val (.int RR), .val (.ref b4), .val (.long (if (0 : Int64) < (((PP.toInt64) * (p0_3.toInt64)) - (((PP.toInt64) * (p0_3.toInt64)) / (100 : Int64)) * (100 : Int64)) then ((((PP.toInt64) * (p0_3.toInt64)) / (100 : Int64)) + (1 : Int64)) else (((PP.toInt64) * (p0_3.toInt64)) / (100 : Int64)))), .second, .val (.long (if (0 : Int64) < (((RR.toInt64) * (p0_4.toInt64)) - (((RR.toInt64) * (p0_4.toInt64)) / (100 : Int64)) * (100 : Int64)) then ((((RR.toInt64) * (p0_4.toInt64)) / (100 : Int64)) + (1 : Int64)) else (((RR.toInt64) * (p0_4.toInt64)) / (100 : Int64)))), .second, .unset] [(.int (lcmpW (p0_2.toInt64) (if (0 : Int64) < (((PP.toInt64) * (p0_3.toInt64)) - (((PP.toInt64) * (p0_3.toInt64)) / (100 : Int64)) * (100 : Int64)) then ((((PP.toInt64) * (p0_3.toInt64)) / (100 : Int64)) + (1 : Int64)) else (((PP.toInt64) * (p0_3.toInt64)) / (100 : Int64)))))])) _
      refine XS.ifNo X20.here hx rfl (hb hby at_69) rfl ((if0 _ _).trans (flt (fun q => hc23 ((lw_lt _ _).mp q))).1) ?_
      show Steps p.tables e below (T20.setTop (mkF m 72 #[.val (.int p0_0), .val (.int p0_1), .val (.int p0_2), .val (.int p0_3), .val (.int p0_4), .val (.int PP), .val (.int RR), .val (.ref b4), .val (.long (if (0 : Int64) < (((PP.toInt64) * (p0_3.toInt64)) - (((PP.toInt64) * (p0_3.toInt64)) / (100 : Int64)) * (100 : Int64)) then ((((PP.toInt64) * (p0_3.toInt64)) / (100 : Int64)) + (1 : Int64)) else (((PP.toInt64) * (p0_3.toInt64)) / (100 : Int64)))), .second, .val (.long (if (0 : Int64) < (((RR.toInt64) * (p0_4.toInt64)) - (((RR.toInt64) * (p0_4.toInt64)) / (100 : Int64)) * (100 : Int64)) then ((((RR.toInt64) * (p0_4.toInt64)) / (100 : Int64)) + (1 : Int64)) else (((RR.toInt64) * (p0_4.toInt64)) / (100 : Int64)))), .second, .unset] [])) _
      refine XS.iloadN X20.here hx rfl (hb hby at_72) rfl ?_
      show Steps p.tables e below (T20.setTop (mkF m 73 #[.val (.int p0_0), .val (.int p0_1), .val (.int p0_2), .val (.int p0_3), .val (.int p0_4), .val (.int PP), .val (.int RR), .val (.ref b4), .val (.long (if (0 : Int64) < (((PP.toInt64) * (p0_3.toInt64)) - (((PP.toInt64) * (p0_3.toInt64)) / (100 : Int64)) * (100 : Int64)) then ((((PP.toInt64) * (p0_3.toInt64)) / (100 : Int64)) + (1 : Int64)) else (((PP.toInt64) * (p0_3.toInt64)) / (100 : Int64)))), .second, .val (.long (if (0 : Int64) < (((RR.toInt64) * (p0_4.toInt64)) - (((RR.toInt64) * (p0_4.toInt64)) / (100 : Int64)) * (100 : Int64)) then ((((RR.toInt64) * (p0_4.toInt64)) / (100 : Int64)) + (1 : Int64)) else (((RR.toInt64) * (p0_4.toInt64)) / (100 : Int64)))), .second, .unset] [(.int p0_2)])) _
      refine XS.i2l X20.here hx rfl (hb hby at_73) rfl ?_
      show Steps p.tables e below (T20.setTop (mkF m 74 #[.val (.int p0_0), .val (.int p0_1), .val (.int p0_2), .val (.int p0_3), .val (.int p0_4), .val (.int PP), .val (.int RR), .val (.ref b4), .val (.long (if (0 : Int64) < (((PP.toInt64) * (p0_3.toInt64)) - (((PP.toInt64) * (p0_3.toInt64)) / (100 : Int64)) * (100 : Int64)) then ((((PP.toInt64) * (p0_3.toInt64)) / (100 : Int64)) + (1 : Int64)) else (((PP.toInt64) * (p0_3.toInt64)) / (100 : Int64)))), .second, .val (.long (if (0 : Int64) < (((RR.toInt64) * (p0_4.toInt64)) - (((RR.toInt64) * (p0_4.toInt64)) / (100 : Int64)) * (100 : Int64)) then ((((RR.toInt64) * (p0_4.toInt64)) / (100 : Int64)) + (1 : Int64)) else (((RR.toInt64) * (p0_4.toInt64)) / (100 : Int64)))), .second, .unset] [(.long (p0_2.toInt64))])) _
      refine XS.lload X20.here hx rfl (hb hby at_74) rfl ?_
      show Steps p.tables e below (T20.setTop (mkF m 76 #[.val (.int p0_0), .val (.int p0_1), .val (.int p0_2), .val (.int p0_3), .val (.int p0_4), .val (.int PP), .val (.int RR), .val (.ref b4), .val (.long (if (0 : Int64) < (((PP.toInt64) * (p0_3.toInt64)) - (((PP.toInt64) * (p0_3.toInt64)) / (100 : Int64)) * (100 : Int64)) then ((((PP.toInt64) * (p0_3.toInt64)) / (100 : Int64)) + (1 : Int64)) else (((PP.toInt64) * (p0_3.toInt64)) / (100 : Int64)))), .second, .val (.long (if (0 : Int64) < (((RR.toInt64) * (p0_4.toInt64)) - (((RR.toInt64) * (p0_4.toInt64)) / (100 : Int64)) * (100 : Int64)) then ((((RR.toInt64) * (p0_4.toInt64)) / (100 : Int64)) + (1 : Int64)) else (((RR.toInt64) * (p0_4.toInt64)) / (100 : Int64)))), .second, .unset] [(.long (if (0 : Int64) < (((RR.toInt64) * (p0_4.toInt64)) - (((RR.toInt64) * (p0_4.toInt64)) / (100 : Int64)) * (100 : Int64)) then ((((RR.toInt64) * (p0_4.toInt64)) / (100 : Int64)) + (1 : Int64)) else (((RR.toInt64) * (p0_4.toInt64)) / (100 : Int64)))), (.long (p0_2.toInt64))])) _
      refine XS.lcmp X20.here hx rfl (hb hby at_76) rfl ?_
      by_cases hc24 : (p0_2.toInt64) < (if (0 : Int64) < (((RR.toInt64) * (p0_4.toInt64)) - (((RR.toInt64) * (p0_4.toInt64)) / (100 : Int64)) * (100 : Int64)) then ((((RR.toInt64) * (p0_4.toInt64)) / (100 : Int64)) + (1 : Int64)) else (((RR.toInt64) * (p0_4.toInt64)) / (100 : Int64)))
      · show Steps p.tables e below (T20.setTop (mkF m 77 #[.val (.int p0_0), .val (.int p0_1), .val (.int p0_2), .val (.int p0_3), .val (.int p0_4), .val (.int PP), .val (.int RR), .val (.ref b4), .val (.long (if (0 : Int64) < (((PP.toInt64) * (p0_3.toInt64)) - (((PP.toInt64) * (p0_3.toInt64)) / (100 : Int64)) * (100 : Int64)) then ((((PP.toInt64) * (p0_3.toInt64)) / (100 : Int64)) + (1 : Int64)) else (((PP.toInt64) * (p0_3.toInt64)) / (100 : Int64)))), .second, .val (.long (if (0 : Int64) < (((RR.toInt64) * (p0_4.toInt64)) - (((RR.toInt64) * (p0_4.toInt64)) / (100 : Int64)) * (100 : Int64)) then ((((RR.toInt64) * (p0_4.toInt64)) / (100 : Int64)) + (1 : Int64)) else (((RR.toInt64) * (p0_4.toInt64)) / (100 : Int64)))), .second, .unset] [(.int (lcmpW (p0_2.toInt64) (if (0 : Int64) < (((RR.toInt64) * (p0_4.toInt64)) - (((RR.toInt64) * (p0_4.toInt64)) / (100 : Int64)) * (100 : Int64)) then ((((RR.toInt64) * (p0_4.toInt64)) / (100 : Int64)) + (1 : Int64)) else (((RR.toInt64) * (p0_4.toInt64)) / (100 : Int64)))))])) _
        refine XS.ifYes X20.here hx rfl (pc0 := 77) (pc' := 84) rfl (hb hby at_77) rfl ((if0 _ _).trans (tlt ((lw_lt _ _).mpr hc24)).1) (by decide) (by decide) ?_
        show Steps p.tables e below (T20.setTop (mkF m 84 #[.val (.int p0_0), .val (.int p0_1), .val (.int p0_2), .val (.int p0_3), .val (.int p0_4), .val (.int PP), .val (.int RR), .val (.ref b4), .val (.long (if (0 : Int64) < (((PP.toInt64) * (p0_3.toInt64)) - (((PP.toInt64) * (p0_3.toInt64)) / (100 : Int64)) * (100 : Int64)) then ((((PP.toInt64) * (p0_3.toInt64)) / (100 : Int64)) + (1 : Int64)) else (((PP.toInt64) * (p0_3.toInt64)) / (100 : Int64)))), .second, .val (.long (if (0 : Int64) < (((RR.toInt64) * (p0_4.toInt64)) - (((RR.toInt64) * (p0_4.toInt64)) / (100 : Int64)) * (100 : Int64)) then ((((RR.toInt64) * (p0_4.toInt64)) / (100 : Int64)) + (1 : Int64)) else (((RR.toInt64) * (p0_4.toInt64)) / (100 : Int64)))), .second, .unset] [])) _
        refine XS.iconst X20.here hx rfl (hb hby at_84) ?_
        have q28 : (bI (¬ ((p0_2.toInt64) < (if (0 : Int64) < (((PP.toInt64) * (p0_3.toInt64)) - (((PP.toInt64) * (p0_3.toInt64)) / (100 : Int64)) * (100 : Int64)) then ((((PP.toInt64) * (p0_3.toInt64)) / (100 : Int64)) + (1 : Int64)) else (((PP.toInt64) * (p0_3.toInt64)) / (100 : Int64)))) ∧ (¬ ((p0_2.toInt64) < (if (0 : Int64) < (((RR.toInt64) * (p0_4.toInt64)) - (((RR.toInt64) * (p0_4.toInt64)) / (100 : Int64)) * (100 : Int64)) then ((((RR.toInt64) * (p0_4.toInt64)) / (100 : Int64)) + (1 : Int64)) else (((RR.toInt64) * (p0_4.toInt64)) / (100 : Int64))))))) = (0 : Int32) := (bI_f (fun z => (fun q => q hc24) z.2))
        exact castTop (g := (mkF m 85 #[.val (.int p0_0), .val (.int p0_1), .val (.int p0_2), .val (.int p0_3), .val (.int p0_4), .val (.int PP), .val (.int RR), .val (.ref b4), .val (.long (if (0 : Int64) < (((PP.toInt64) * (p0_3.toInt64)) - (((PP.toInt64) * (p0_3.toInt64)) / (100 : Int64)) * (100 : Int64)) then ((((PP.toInt64) * (p0_3.toInt64)) / (100 : Int64)) + (1 : Int64)) else (((PP.toInt64) * (p0_3.toInt64)) / (100 : Int64)))), .second, .val (.long (if (0 : Int64) < (((RR.toInt64) * (p0_4.toInt64)) - (((RR.toInt64) * (p0_4.toInt64)) / (100 : Int64)) * (100 : Int64)) then ((((RR.toInt64) * (p0_4.toInt64)) / (100 : Int64)) + (1 : Int64)) else (((RR.toInt64) * (p0_4.toInt64)) / (100 : Int64)))), .second, .unset] [(.int (0 : Int32))])) (g' := (mkF m 85 #[.val (.int p0_0), .val (.int p0_1), .val (.int p0_2), .val (.int p0_3), .val (.int p0_4), .val (.int PP), .val (.int RR), .val (.ref b4), .val (.long (if (0 : Int64) < (((PP.toInt64) * (p0_3.toInt64)) - (((PP.toInt64) * (p0_3.toInt64)) / (100 : Int64)) * (100 : Int64)) then ((((PP.toInt64) * (p0_3.toInt64)) / (100 : Int64)) + (1 : Int64)) else (((PP.toInt64) * (p0_3.toInt64)) / (100 : Int64)))), .second, .val (.long (if (0 : Int64) < (((RR.toInt64) * (p0_4.toInt64)) - (((RR.toInt64) * (p0_4.toInt64)) / (100 : Int64)) * (100 : Int64)) then ((((RR.toInt64) * (p0_4.toInt64)) / (100 : Int64)) + (1 : Int64)) else (((RR.toInt64) * (p0_4.toInt64)) / (100 : Int64)))), .second, .unset] [(.int (bI (¬ ((p0_2.toInt64) < (if (0 : Int64) < (((PP.toInt64) * (p0_3.toInt64)) - (((PP.toInt64) * (p0_3.toInt64)) / (100 : Int64)) * (100 : Int64)) then ((((PP.toInt64) * (p0_3.toInt64)) / (100 : Int64)) + (1 : Int64)) else (((PP.toInt64) * (p0_3.toInt64)) / (100 : Int64)))) ∧ (¬ ((p0_2.toInt64) < (if (0 : Int64) < (((RR.toInt64) * (p0_4.toInt64)) - (((RR.toInt64) * (p0_4.toInt64)) / (100 : Int64)) * (100 : Int64)) then ((((RR.toInt64) * (p0_4.toInt64)) / (100 : Int64)) + (1 : Int64)) else (((RR.toInt64) * (p0_4.toInt64)) / (100 : Int64))))))))])) (by simp only [q28]) k
      · show Steps p.tables e below (T20.setTop (mkF m 77 #[.val (.int p0_0), .val (.int p0_1), .val (.int p0_2), .val (.int p0_3), .val (.int p0_4), .val (.int PP), .val (.int RR), .val (.ref b4), .val (.long (if (0 : Int64) < (((PP.toInt64) * (p0_3.toInt64)) - (((PP.toInt64) * (p0_3.toInt64)) / (100 : Int64)) * (100 : Int64)) then ((((PP.toInt64) * (p0_3.toInt64)) / (100 : Int64)) + (1 : Int64)) else (((PP.toInt64) * (p0_3.toInt64)) / (100 : Int64)))), .second, .val (.long (if (0 : Int64) < (((RR.toInt64) * (p0_4.toInt64)) - (((RR.toInt64) * (p0_4.toInt64)) / (100 : Int64)) * (100 : Int64)) then ((((RR.toInt64) * (p0_4.toInt64)) / (100 : Int64)) + (1 : Int64)) else (((RR.toInt64) * (p0_4.toInt64)) / (100 : Int64)))), .second, .unset] [(.int (lcmpW (p0_2.toInt64) (if (0 : Int64) < (((RR.toInt64) * (p0_4.toInt64)) - (((RR.toInt64) * (p0_4.toInt64)) / (100 : Int64)) * (100 : Int64)) then ((((RR.toInt64) * (p0_4.toInt64)) / (100 : Int64)) + (1 : Int64)) else (((RR.toInt64) * (p0_4.toInt64)) / (100 : Int64)))))])) _
        refine XS.ifNo X20.here hx rfl (hb hby at_77) rfl ((if0 _ _).trans (flt (fun q => hc24 ((lw_lt _ _).mp q))).1) ?_
        show Steps p.tables e below (T20.setTop (mkF m 80 #[.val (.int p0_0), .val (.int p0_1), .val (.int p0_2), .val (.int p0_3), .val (.int p0_4), .val (.int PP), .val (.int RR), .val (.ref b4), .val (.long (if (0 : Int64) < (((PP.toInt64) * (p0_3.toInt64)) - (((PP.toInt64) * (p0_3.toInt64)) / (100 : Int64)) * (100 : Int64)) then ((((PP.toInt64) * (p0_3.toInt64)) / (100 : Int64)) + (1 : Int64)) else (((PP.toInt64) * (p0_3.toInt64)) / (100 : Int64)))), .second, .val (.long (if (0 : Int64) < (((RR.toInt64) * (p0_4.toInt64)) - (((RR.toInt64) * (p0_4.toInt64)) / (100 : Int64)) * (100 : Int64)) then ((((RR.toInt64) * (p0_4.toInt64)) / (100 : Int64)) + (1 : Int64)) else (((RR.toInt64) * (p0_4.toInt64)) / (100 : Int64)))), .second, .unset] [])) _
        refine XS.iconst X20.here hx rfl (hb hby at_80) ?_
        show Steps p.tables e below (T20.setTop (mkF m 81 #[.val (.int p0_0), .val (.int p0_1), .val (.int p0_2), .val (.int p0_3), .val (.int p0_4), .val (.int PP), .val (.int RR), .val (.ref b4), .val (.long (if (0 : Int64) < (((PP.toInt64) * (p0_3.toInt64)) - (((PP.toInt64) * (p0_3.toInt64)) / (100 : Int64)) * (100 : Int64)) then ((((PP.toInt64) * (p0_3.toInt64)) / (100 : Int64)) + (1 : Int64)) else (((PP.toInt64) * (p0_3.toInt64)) / (100 : Int64)))), .second, .val (.long (if (0 : Int64) < (((RR.toInt64) * (p0_4.toInt64)) - (((RR.toInt64) * (p0_4.toInt64)) / (100 : Int64)) * (100 : Int64)) then ((((RR.toInt64) * (p0_4.toInt64)) / (100 : Int64)) + (1 : Int64)) else (((RR.toInt64) * (p0_4.toInt64)) / (100 : Int64)))), .second, .unset] [(.int (1 : Int32))])) _
        refine XS.goto X20.here hx rfl (pc0 := 81) (pc' := 85) rfl (hb hby at_81) (by decide) (by decide) ?_
        have q29 : (bI (¬ ((p0_2.toInt64) < (if (0 : Int64) < (((PP.toInt64) * (p0_3.toInt64)) - (((PP.toInt64) * (p0_3.toInt64)) / (100 : Int64)) * (100 : Int64)) then ((((PP.toInt64) * (p0_3.toInt64)) / (100 : Int64)) + (1 : Int64)) else (((PP.toInt64) * (p0_3.toInt64)) / (100 : Int64)))) ∧ (¬ ((p0_2.toInt64) < (if (0 : Int64) < (((RR.toInt64) * (p0_4.toInt64)) - (((RR.toInt64) * (p0_4.toInt64)) / (100 : Int64)) * (100 : Int64)) then ((((RR.toInt64) * (p0_4.toInt64)) / (100 : Int64)) + (1 : Int64)) else (((RR.toInt64) * (p0_4.toInt64)) / (100 : Int64))))))) = (1 : Int32) := (bI_t ⟨hc23, hc24⟩)
        exact castTop (g := (mkF m 85 #[.val (.int p0_0), .val (.int p0_1), .val (.int p0_2), .val (.int p0_3), .val (.int p0_4), .val (.int PP), .val (.int RR), .val (.ref b4), .val (.long (if (0 : Int64) < (((PP.toInt64) * (p0_3.toInt64)) - (((PP.toInt64) * (p0_3.toInt64)) / (100 : Int64)) * (100 : Int64)) then ((((PP.toInt64) * (p0_3.toInt64)) / (100 : Int64)) + (1 : Int64)) else (((PP.toInt64) * (p0_3.toInt64)) / (100 : Int64)))), .second, .val (.long (if (0 : Int64) < (((RR.toInt64) * (p0_4.toInt64)) - (((RR.toInt64) * (p0_4.toInt64)) / (100 : Int64)) * (100 : Int64)) then ((((RR.toInt64) * (p0_4.toInt64)) / (100 : Int64)) + (1 : Int64)) else (((RR.toInt64) * (p0_4.toInt64)) / (100 : Int64)))), .second, .unset] [(.int (1 : Int32))])) (g' := (mkF m 85 #[.val (.int p0_0), .val (.int p0_1), .val (.int p0_2), .val (.int p0_3), .val (.int p0_4), .val (.int PP), .val (.int RR), .val (.ref b4), .val (.long (if (0 : Int64) < (((PP.toInt64) * (p0_3.toInt64)) - (((PP.toInt64) * (p0_3.toInt64)) / (100 : Int64)) * (100 : Int64)) then ((((PP.toInt64) * (p0_3.toInt64)) / (100 : Int64)) + (1 : Int64)) else (((PP.toInt64) * (p0_3.toInt64)) / (100 : Int64)))), .second, .val (.long (if (0 : Int64) < (((RR.toInt64) * (p0_4.toInt64)) - (((RR.toInt64) * (p0_4.toInt64)) / (100 : Int64)) * (100 : Int64)) then ((((RR.toInt64) * (p0_4.toInt64)) / (100 : Int64)) + (1 : Int64)) else (((RR.toInt64) * (p0_4.toInt64)) / (100 : Int64)))), .second, .unset] [(.int (bI (¬ ((p0_2.toInt64) < (if (0 : Int64) < (((PP.toInt64) * (p0_3.toInt64)) - (((PP.toInt64) * (p0_3.toInt64)) / (100 : Int64)) * (100 : Int64)) then ((((PP.toInt64) * (p0_3.toInt64)) / (100 : Int64)) + (1 : Int64)) else (((PP.toInt64) * (p0_3.toInt64)) / (100 : Int64)))) ∧ (¬ ((p0_2.toInt64) < (if (0 : Int64) < (((RR.toInt64) * (p0_4.toInt64)) - (((RR.toInt64) * (p0_4.toInt64)) / (100 : Int64)) * (100 : Int64)) then ((((RR.toInt64) * (p0_4.toInt64)) / (100 : Int64)) + (1 : Int64)) else (((RR.toInt64) * (p0_4.toInt64)) / (100 : Int64))))))))])) (by simp only [q29]) k)
  obtain ⟨cq30, kq30, q30a, q30b, q30c⟩ := isOf hZ e20 r9_0
  obtain ⟨_, _, ⟨T30, L30, k30, n30⟩, -, X30, ⟨Lc30, hQ30, l30, y30, z30⟩, st30⟩ := X20.virtualBack hx (y := (⟨"com/example/shieldwall/shieldwall/rules/UnitVictory", "wins", "(III)Z"⟩ : MethodName)) (z := (⟨"com/example/shieldwall/shieldwall/rules/UnitVictory", "wins", "(III)Z"⟩ : MethodName)) hown (mvT hZ (hW 27 _ rfl)) (mvT hZ (hW 28 _ rfl)) (notFace_of_selects (args := #[]) (mvT hZ (hW 30 _ rfl))) (mvT hZ (hW 30 _ rfl)) (mvT hZ (hW 29 _ rfl)) (by decide) (backOf (W := 0) (rm5 l Z a0 hw [] b4 p0_2 p0_3 p0_4 PP RR T9.heap n0 z16 r9_1 r9_2) hZ (hW 31 _ rfl) (hW 6 _ rfl) (by decide) (by decide)) q30a q30c (g := (mkF m 93 #[.val (.int p0_0), .val (.int p0_1), .val (.int p0_2), .val (.int p0_3), .val (.int p0_4), .val (.int PP), .val (.int RR), .val (.ref b4), .val (.long (if (0 : Int64) < (((PP.toInt64) * (p0_3.toInt64)) - (((PP.toInt64) * (p0_3.toInt64)) / (100 : Int64)) * (100 : Int64)) then ((((PP.toInt64) * (p0_3.toInt64)) / (100 : Int64)) + (1 : Int64)) else (((PP.toInt64) * (p0_3.toInt64)) / (100 : Int64)))), .second, .val (.long (if (0 : Int64) < (((RR.toInt64) * (p0_4.toInt64)) - (((RR.toInt64) * (p0_4.toInt64)) / (100 : Int64)) * (100 : Int64)) then ((((RR.toInt64) * (p0_4.toInt64)) / (100 : Int64)) + (1 : Int64)) else (((RR.toInt64) * (p0_4.toInt64)) / (100 : Int64)))), .second, .val (.int (bI (¬ ((p0_2.toInt64) < (if (0 : Int64) < (((PP.toInt64) * (p0_3.toInt64)) - (((PP.toInt64) * (p0_3.toInt64)) / (100 : Int64)) * (100 : Int64)) then ((((PP.toInt64) * (p0_3.toInt64)) / (100 : Int64)) + (1 : Int64)) else (((PP.toInt64) * (p0_3.toInt64)) / (100 : Int64)))) ∧ (¬ ((p0_2.toInt64) < (if (0 : Int64) < (((RR.toInt64) * (p0_4.toInt64)) - (((RR.toInt64) * (p0_4.toInt64)) / (100 : Int64)) * (100 : Int64)) then ((((RR.toInt64) * (p0_4.toInt64)) / (100 : Int64)) + (1 : Int64)) else (((RR.toInt64) * (p0_4.toInt64)) / (100 : Int64))))))))] [(.int p0_4), (.int p0_3), (.int p0_2), (.ref b4)])) rfl (by rw [hml]; rfl) (Steps.refl _) (argsL := [(.int p0_2), (.int p0_3), (.int p0_4)]) (rest := []) (lenOf pd_3 rfl) rfl (by show 2 * 0 + _ ≤ _; exact Nat.le_of_eq rfl) (hb hby at_93) (fun _ _ => ⟨rfl, e20, (by decide : 1 + 0 ≤ _), (by decide : 2 + 0 ≤ _)⟩)
  dsimp only [Pt.U, Pt.locs, Pt.cells, Pt.slots] at X30 l30 y30 z30 st30 hQ30
  subst l30 y30 z30
  obtain ⟨rfl, N30q, e30⟩ := hQ30
  have N31 := Fr.app N21 N30q
  have pre32 : ∀ t, Steps p.tables e below (T30.setTop (mkF m 96 #[.val (.int p0_0), .val (.int p0_1), .val (.int p0_2), .val (.int p0_3), .val (.int p0_4), .val (.int PP), .val (.int RR), .val (.ref b4), .val (.long (if (0 : Int64) < (((PP.toInt64) * (p0_3.toInt64)) - (((PP.toInt64) * (p0_3.toInt64)) / (100 : Int64)) * (100 : Int64)) then ((((PP.toInt64) * (p0_3.toInt64)) / (100 : Int64)) + (1 : Int64)) else (((PP.toInt64) * (p0_3.toInt64)) / (100 : Int64)))), .second, .val (.long (if (0 : Int64) < (((RR.toInt64) * (p0_4.toInt64)) - (((RR.toInt64) * (p0_4.toInt64)) / (100 : Int64)) * (100 : Int64)) then ((((RR.toInt64) * (p0_4.toInt64)) / (100 : Int64)) + (1 : Int64)) else (((RR.toInt64) * (p0_4.toInt64)) / (100 : Int64)))), .second, .val (.int (bI (¬ ((p0_2.toInt64) < (if (0 : Int64) < (((PP.toInt64) * (p0_3.toInt64)) - (((PP.toInt64) * (p0_3.toInt64)) / (100 : Int64)) * (100 : Int64)) then ((((PP.toInt64) * (p0_3.toInt64)) / (100 : Int64)) + (1 : Int64)) else (((PP.toInt64) * (p0_3.toInt64)) / (100 : Int64)))) ∧ (¬ ((p0_2.toInt64) < (if (0 : Int64) < (((RR.toInt64) * (p0_4.toInt64)) - (((RR.toInt64) * (p0_4.toInt64)) / (100 : Int64)) * (100 : Int64)) then ((((RR.toInt64) * (p0_4.toInt64)) / (100 : Int64)) + (1 : Int64)) else (((RR.toInt64) * (p0_4.toInt64)) / (100 : Int64))))))))] [(.int (bI (¬ (((p0_2.toInt64) * (100 : Int64)) < ((PP.toInt64) * (p0_3.toInt64))) ∧ (¬ (((p0_2.toInt64) * (100 : Int64)) < ((RR.toInt64) * (p0_4.toInt64)))))))])) t → Steps p.tables e below (s₁.setTop (entryFrame m #[(.int p0_0), (.int p0_1), (.int p0_2), (.int p0_3), (.int p0_4)] maxLocals)) t := fun t k => pre26 t (by
    show Steps p.tables e below (T20.setTop (mkF m 85 #[.val (.int p0_0), .val (.int p0_1), .val (.int p0_2), .val (.int p0_3), .val (.int p0_4), .val (.int PP), .val (.int RR), .val (.ref b4), .val (.long (if (0 : Int64) < (((PP.toInt64) * (p0_3.toInt64)) - (((PP.toInt64) * (p0_3.toInt64)) / (100 : Int64)) * (100 : Int64)) then ((((PP.toInt64) * (p0_3.toInt64)) / (100 : Int64)) + (1 : Int64)) else (((PP.toInt64) * (p0_3.toInt64)) / (100 : Int64)))), .second, .val (.long (if (0 : Int64) < (((RR.toInt64) * (p0_4.toInt64)) - (((RR.toInt64) * (p0_4.toInt64)) / (100 : Int64)) * (100 : Int64)) then ((((RR.toInt64) * (p0_4.toInt64)) / (100 : Int64)) + (1 : Int64)) else (((RR.toInt64) * (p0_4.toInt64)) / (100 : Int64)))), .second, .unset] [(.int (bI (¬ ((p0_2.toInt64) < (if (0 : Int64) < (((PP.toInt64) * (p0_3.toInt64)) - (((PP.toInt64) * (p0_3.toInt64)) / (100 : Int64)) * (100 : Int64)) then ((((PP.toInt64) * (p0_3.toInt64)) / (100 : Int64)) + (1 : Int64)) else (((PP.toInt64) * (p0_3.toInt64)) / (100 : Int64)))) ∧ (¬ ((p0_2.toInt64) < (if (0 : Int64) < (((RR.toInt64) * (p0_4.toInt64)) - (((RR.toInt64) * (p0_4.toInt64)) / (100 : Int64)) * (100 : Int64)) then ((((RR.toInt64) * (p0_4.toInt64)) / (100 : Int64)) + (1 : Int64)) else (((RR.toInt64) * (p0_4.toInt64)) / (100 : Int64))))))))])) _
    refine XS.istore X20.here hx rfl (hb hby at_85) rfl (l' := #[.val (.int p0_0), .val (.int p0_1), .val (.int p0_2), .val (.int p0_3), .val (.int p0_4), .val (.int PP), .val (.int RR), .val (.ref b4), .val (.long (if (0 : Int64) < (((PP.toInt64) * (p0_3.toInt64)) - (((PP.toInt64) * (p0_3.toInt64)) / (100 : Int64)) * (100 : Int64)) then ((((PP.toInt64) * (p0_3.toInt64)) / (100 : Int64)) + (1 : Int64)) else (((PP.toInt64) * (p0_3.toInt64)) / (100 : Int64)))), .second, .val (.long (if (0 : Int64) < (((RR.toInt64) * (p0_4.toInt64)) - (((RR.toInt64) * (p0_4.toInt64)) / (100 : Int64)) * (100 : Int64)) then ((((RR.toInt64) * (p0_4.toInt64)) / (100 : Int64)) + (1 : Int64)) else (((RR.toInt64) * (p0_4.toInt64)) / (100 : Int64)))), .second, .val (.int (bI (¬ ((p0_2.toInt64) < (if (0 : Int64) < (((PP.toInt64) * (p0_3.toInt64)) - (((PP.toInt64) * (p0_3.toInt64)) / (100 : Int64)) * (100 : Int64)) then ((((PP.toInt64) * (p0_3.toInt64)) / (100 : Int64)) + (1 : Int64)) else (((PP.toInt64) * (p0_3.toInt64)) / (100 : Int64)))) ∧ (¬ ((p0_2.toInt64) < (if (0 : Int64) < (((RR.toInt64) * (p0_4.toInt64)) - (((RR.toInt64) * (p0_4.toInt64)) / (100 : Int64)) * (100 : Int64)) then ((((RR.toInt64) * (p0_4.toInt64)) / (100 : Int64)) + (1 : Int64)) else (((RR.toInt64) * (p0_4.toInt64)) / (100 : Int64))))))))]) rfl ?_
    show Steps p.tables e below (T20.setTop (mkF m 87 #[.val (.int p0_0), .val (.int p0_1), .val (.int p0_2), .val (.int p0_3), .val (.int p0_4), .val (.int PP), .val (.int RR), .val (.ref b4), .val (.long (if (0 : Int64) < (((PP.toInt64) * (p0_3.toInt64)) - (((PP.toInt64) * (p0_3.toInt64)) / (100 : Int64)) * (100 : Int64)) then ((((PP.toInt64) * (p0_3.toInt64)) / (100 : Int64)) + (1 : Int64)) else (((PP.toInt64) * (p0_3.toInt64)) / (100 : Int64)))), .second, .val (.long (if (0 : Int64) < (((RR.toInt64) * (p0_4.toInt64)) - (((RR.toInt64) * (p0_4.toInt64)) / (100 : Int64)) * (100 : Int64)) then ((((RR.toInt64) * (p0_4.toInt64)) / (100 : Int64)) + (1 : Int64)) else (((RR.toInt64) * (p0_4.toInt64)) / (100 : Int64)))), .second, .val (.int (bI (¬ ((p0_2.toInt64) < (if (0 : Int64) < (((PP.toInt64) * (p0_3.toInt64)) - (((PP.toInt64) * (p0_3.toInt64)) / (100 : Int64)) * (100 : Int64)) then ((((PP.toInt64) * (p0_3.toInt64)) / (100 : Int64)) + (1 : Int64)) else (((PP.toInt64) * (p0_3.toInt64)) / (100 : Int64)))) ∧ (¬ ((p0_2.toInt64) < (if (0 : Int64) < (((RR.toInt64) * (p0_4.toInt64)) - (((RR.toInt64) * (p0_4.toInt64)) / (100 : Int64)) * (100 : Int64)) then ((((RR.toInt64) * (p0_4.toInt64)) / (100 : Int64)) + (1 : Int64)) else (((RR.toInt64) * (p0_4.toInt64)) / (100 : Int64))))))))] [])) _
    refine XS.aload X20.here hx rfl (hb hby at_87) rfl rfl ?_
    show Steps p.tables e below (T20.setTop (mkF m 89 #[.val (.int p0_0), .val (.int p0_1), .val (.int p0_2), .val (.int p0_3), .val (.int p0_4), .val (.int PP), .val (.int RR), .val (.ref b4), .val (.long (if (0 : Int64) < (((PP.toInt64) * (p0_3.toInt64)) - (((PP.toInt64) * (p0_3.toInt64)) / (100 : Int64)) * (100 : Int64)) then ((((PP.toInt64) * (p0_3.toInt64)) / (100 : Int64)) + (1 : Int64)) else (((PP.toInt64) * (p0_3.toInt64)) / (100 : Int64)))), .second, .val (.long (if (0 : Int64) < (((RR.toInt64) * (p0_4.toInt64)) - (((RR.toInt64) * (p0_4.toInt64)) / (100 : Int64)) * (100 : Int64)) then ((((RR.toInt64) * (p0_4.toInt64)) / (100 : Int64)) + (1 : Int64)) else (((RR.toInt64) * (p0_4.toInt64)) / (100 : Int64)))), .second, .val (.int (bI (¬ ((p0_2.toInt64) < (if (0 : Int64) < (((PP.toInt64) * (p0_3.toInt64)) - (((PP.toInt64) * (p0_3.toInt64)) / (100 : Int64)) * (100 : Int64)) then ((((PP.toInt64) * (p0_3.toInt64)) / (100 : Int64)) + (1 : Int64)) else (((PP.toInt64) * (p0_3.toInt64)) / (100 : Int64)))) ∧ (¬ ((p0_2.toInt64) < (if (0 : Int64) < (((RR.toInt64) * (p0_4.toInt64)) - (((RR.toInt64) * (p0_4.toInt64)) / (100 : Int64)) * (100 : Int64)) then ((((RR.toInt64) * (p0_4.toInt64)) / (100 : Int64)) + (1 : Int64)) else (((RR.toInt64) * (p0_4.toInt64)) / (100 : Int64))))))))] [(.ref b4)])) _
    refine XS.iloadN X20.here hx rfl (hb hby at_89) rfl ?_
    show Steps p.tables e below (T20.setTop (mkF m 90 #[.val (.int p0_0), .val (.int p0_1), .val (.int p0_2), .val (.int p0_3), .val (.int p0_4), .val (.int PP), .val (.int RR), .val (.ref b4), .val (.long (if (0 : Int64) < (((PP.toInt64) * (p0_3.toInt64)) - (((PP.toInt64) * (p0_3.toInt64)) / (100 : Int64)) * (100 : Int64)) then ((((PP.toInt64) * (p0_3.toInt64)) / (100 : Int64)) + (1 : Int64)) else (((PP.toInt64) * (p0_3.toInt64)) / (100 : Int64)))), .second, .val (.long (if (0 : Int64) < (((RR.toInt64) * (p0_4.toInt64)) - (((RR.toInt64) * (p0_4.toInt64)) / (100 : Int64)) * (100 : Int64)) then ((((RR.toInt64) * (p0_4.toInt64)) / (100 : Int64)) + (1 : Int64)) else (((RR.toInt64) * (p0_4.toInt64)) / (100 : Int64)))), .second, .val (.int (bI (¬ ((p0_2.toInt64) < (if (0 : Int64) < (((PP.toInt64) * (p0_3.toInt64)) - (((PP.toInt64) * (p0_3.toInt64)) / (100 : Int64)) * (100 : Int64)) then ((((PP.toInt64) * (p0_3.toInt64)) / (100 : Int64)) + (1 : Int64)) else (((PP.toInt64) * (p0_3.toInt64)) / (100 : Int64)))) ∧ (¬ ((p0_2.toInt64) < (if (0 : Int64) < (((RR.toInt64) * (p0_4.toInt64)) - (((RR.toInt64) * (p0_4.toInt64)) / (100 : Int64)) * (100 : Int64)) then ((((RR.toInt64) * (p0_4.toInt64)) / (100 : Int64)) + (1 : Int64)) else (((RR.toInt64) * (p0_4.toInt64)) / (100 : Int64))))))))] [(.int p0_2), (.ref b4)])) _
    refine XS.iloadN X20.here hx rfl (hb hby at_90) rfl ?_
    show Steps p.tables e below (T20.setTop (mkF m 91 #[.val (.int p0_0), .val (.int p0_1), .val (.int p0_2), .val (.int p0_3), .val (.int p0_4), .val (.int PP), .val (.int RR), .val (.ref b4), .val (.long (if (0 : Int64) < (((PP.toInt64) * (p0_3.toInt64)) - (((PP.toInt64) * (p0_3.toInt64)) / (100 : Int64)) * (100 : Int64)) then ((((PP.toInt64) * (p0_3.toInt64)) / (100 : Int64)) + (1 : Int64)) else (((PP.toInt64) * (p0_3.toInt64)) / (100 : Int64)))), .second, .val (.long (if (0 : Int64) < (((RR.toInt64) * (p0_4.toInt64)) - (((RR.toInt64) * (p0_4.toInt64)) / (100 : Int64)) * (100 : Int64)) then ((((RR.toInt64) * (p0_4.toInt64)) / (100 : Int64)) + (1 : Int64)) else (((RR.toInt64) * (p0_4.toInt64)) / (100 : Int64)))), .second, .val (.int (bI (¬ ((p0_2.toInt64) < (if (0 : Int64) < (((PP.toInt64) * (p0_3.toInt64)) - (((PP.toInt64) * (p0_3.toInt64)) / (100 : Int64)) * (100 : Int64)) then ((((PP.toInt64) * (p0_3.toInt64)) / (100 : Int64)) + (1 : Int64)) else (((PP.toInt64) * (p0_3.toInt64)) / (100 : Int64)))) ∧ (¬ ((p0_2.toInt64) < (if (0 : Int64) < (((RR.toInt64) * (p0_4.toInt64)) - (((RR.toInt64) * (p0_4.toInt64)) / (100 : Int64)) * (100 : Int64)) then ((((RR.toInt64) * (p0_4.toInt64)) / (100 : Int64)) + (1 : Int64)) else (((RR.toInt64) * (p0_4.toInt64)) / (100 : Int64))))))))] [(.int p0_3), (.int p0_2), (.ref b4)])) _
    refine XS.iload X20.here hx rfl (hb hby at_91) rfl ?_
    show Steps p.tables e below (T20.setTop (mkF m 93 #[.val (.int p0_0), .val (.int p0_1), .val (.int p0_2), .val (.int p0_3), .val (.int p0_4), .val (.int PP), .val (.int RR), .val (.ref b4), .val (.long (if (0 : Int64) < (((PP.toInt64) * (p0_3.toInt64)) - (((PP.toInt64) * (p0_3.toInt64)) / (100 : Int64)) * (100 : Int64)) then ((((PP.toInt64) * (p0_3.toInt64)) / (100 : Int64)) + (1 : Int64)) else (((PP.toInt64) * (p0_3.toInt64)) / (100 : Int64)))), .second, .val (.long (if (0 : Int64) < (((RR.toInt64) * (p0_4.toInt64)) - (((RR.toInt64) * (p0_4.toInt64)) / (100 : Int64)) * (100 : Int64)) then ((((RR.toInt64) * (p0_4.toInt64)) / (100 : Int64)) + (1 : Int64)) else (((RR.toInt64) * (p0_4.toInt64)) / (100 : Int64)))), .second, .val (.int (bI (¬ ((p0_2.toInt64) < (if (0 : Int64) < (((PP.toInt64) * (p0_3.toInt64)) - (((PP.toInt64) * (p0_3.toInt64)) / (100 : Int64)) * (100 : Int64)) then ((((PP.toInt64) * (p0_3.toInt64)) / (100 : Int64)) + (1 : Int64)) else (((PP.toInt64) * (p0_3.toInt64)) / (100 : Int64)))) ∧ (¬ ((p0_2.toInt64) < (if (0 : Int64) < (((RR.toInt64) * (p0_4.toInt64)) - (((RR.toInt64) * (p0_4.toInt64)) / (100 : Int64)) * (100 : Int64)) then ((((RR.toInt64) * (p0_4.toInt64)) / (100 : Int64)) + (1 : Int64)) else (((RR.toInt64) * (p0_4.toInt64)) / (100 : Int64))))))))] [(.int p0_4), (.int p0_3), (.int p0_2), (.ref b4)])) _
    refine st30.trans ?_
    exact k)
  have hd33 : (bI (¬ (((p0_2.toInt64) * (100 : Int64)) < ((PP.toInt64) * (p0_3.toInt64))) ∧ (¬ (((p0_2.toInt64) * (100 : Int64)) < ((RR.toInt64) * (p0_4.toInt64)))))) = (bI (¬ ((p0_2.toInt64) < (if (0 : Int64) < (((PP.toInt64) * (p0_3.toInt64)) - (((PP.toInt64) * (p0_3.toInt64)) / (100 : Int64)) * (100 : Int64)) then ((((PP.toInt64) * (p0_3.toInt64)) / (100 : Int64)) + (1 : Int64)) else (((PP.toInt64) * (p0_3.toInt64)) / (100 : Int64)))) ∧ (¬ ((p0_2.toInt64) < (if (0 : Int64) < (((RR.toInt64) * (p0_4.toInt64)) - (((RR.toInt64) * (p0_4.toInt64)) / (100 : Int64)) * (100 : Int64)) then ((((RR.toInt64) * (p0_4.toInt64)) / (100 : Int64)) + (1 : Int64)) else (((RR.toInt64) * (p0_4.toInt64)) / (100 : Int64))))))) := by
    exact own_fin _ _ _ _ _ (by omega) (by omega)
  obtain ⟨fs, hr, hrun, hended, hW, hsame⟩ := X30.leave (v := some (.int (1 : Int32))) (fun h => by rw [Bd.returns] at h; cases h)
  refine ⟨_, _, pre32 _ ?_, hrun, hended, _, _, rfl, ?_, ⟨_, rfl⟩, hW, hsame.mono (by decide) (by decide)⟩
  · show Steps p.tables e below (T30.setTop (mkF m 96 #[.val (.int p0_0), .val (.int p0_1), .val (.int p0_2), .val (.int p0_3), .val (.int p0_4), .val (.int PP), .val (.int RR), .val (.ref b4), .val (.long (if (0 : Int64) < (((PP.toInt64) * (p0_3.toInt64)) - (((PP.toInt64) * (p0_3.toInt64)) / (100 : Int64)) * (100 : Int64)) then ((((PP.toInt64) * (p0_3.toInt64)) / (100 : Int64)) + (1 : Int64)) else (((PP.toInt64) * (p0_3.toInt64)) / (100 : Int64)))), .second, .val (.long (if (0 : Int64) < (((RR.toInt64) * (p0_4.toInt64)) - (((RR.toInt64) * (p0_4.toInt64)) / (100 : Int64)) * (100 : Int64)) then ((((RR.toInt64) * (p0_4.toInt64)) / (100 : Int64)) + (1 : Int64)) else (((RR.toInt64) * (p0_4.toInt64)) / (100 : Int64)))), .second, .val (.int (bI (¬ ((p0_2.toInt64) < (if (0 : Int64) < (((PP.toInt64) * (p0_3.toInt64)) - (((PP.toInt64) * (p0_3.toInt64)) / (100 : Int64)) * (100 : Int64)) then ((((PP.toInt64) * (p0_3.toInt64)) / (100 : Int64)) + (1 : Int64)) else (((PP.toInt64) * (p0_3.toInt64)) / (100 : Int64)))) ∧ (¬ ((p0_2.toInt64) < (if (0 : Int64) < (((RR.toInt64) * (p0_4.toInt64)) - (((RR.toInt64) * (p0_4.toInt64)) / (100 : Int64)) * (100 : Int64)) then ((((RR.toInt64) * (p0_4.toInt64)) / (100 : Int64)) + (1 : Int64)) else (((RR.toInt64) * (p0_4.toInt64)) / (100 : Int64))))))))] [(.int (bI (¬ (((p0_2.toInt64) * (100 : Int64)) < ((PP.toInt64) * (p0_3.toInt64))) ∧ (¬ (((p0_2.toInt64) * (100 : Int64)) < ((RR.toInt64) * (p0_4.toInt64)))))))])) _
    refine XS.iload X30.here hx rfl (hb hby at_96) rfl ?_
    show Steps p.tables e below (T30.setTop (mkF m 98 #[.val (.int p0_0), .val (.int p0_1), .val (.int p0_2), .val (.int p0_3), .val (.int p0_4), .val (.int PP), .val (.int RR), .val (.ref b4), .val (.long (if (0 : Int64) < (((PP.toInt64) * (p0_3.toInt64)) - (((PP.toInt64) * (p0_3.toInt64)) / (100 : Int64)) * (100 : Int64)) then ((((PP.toInt64) * (p0_3.toInt64)) / (100 : Int64)) + (1 : Int64)) else (((PP.toInt64) * (p0_3.toInt64)) / (100 : Int64)))), .second, .val (.long (if (0 : Int64) < (((RR.toInt64) * (p0_4.toInt64)) - (((RR.toInt64) * (p0_4.toInt64)) / (100 : Int64)) * (100 : Int64)) then ((((RR.toInt64) * (p0_4.toInt64)) / (100 : Int64)) + (1 : Int64)) else (((RR.toInt64) * (p0_4.toInt64)) / (100 : Int64)))), .second, .val (.int (bI (¬ ((p0_2.toInt64) < (if (0 : Int64) < (((PP.toInt64) * (p0_3.toInt64)) - (((PP.toInt64) * (p0_3.toInt64)) / (100 : Int64)) * (100 : Int64)) then ((((PP.toInt64) * (p0_3.toInt64)) / (100 : Int64)) + (1 : Int64)) else (((PP.toInt64) * (p0_3.toInt64)) / (100 : Int64)))) ∧ (¬ ((p0_2.toInt64) < (if (0 : Int64) < (((RR.toInt64) * (p0_4.toInt64)) - (((RR.toInt64) * (p0_4.toInt64)) / (100 : Int64)) * (100 : Int64)) then ((((RR.toInt64) * (p0_4.toInt64)) / (100 : Int64)) + (1 : Int64)) else (((RR.toInt64) * (p0_4.toInt64)) / (100 : Int64))))))))] [(.int (bI (¬ ((p0_2.toInt64) < (if (0 : Int64) < (((PP.toInt64) * (p0_3.toInt64)) - (((PP.toInt64) * (p0_3.toInt64)) / (100 : Int64)) * (100 : Int64)) then ((((PP.toInt64) * (p0_3.toInt64)) / (100 : Int64)) + (1 : Int64)) else (((PP.toInt64) * (p0_3.toInt64)) / (100 : Int64)))) ∧ (¬ ((p0_2.toInt64) < (if (0 : Int64) < (((RR.toInt64) * (p0_4.toInt64)) - (((RR.toInt64) * (p0_4.toInt64)) / (100 : Int64)) * (100 : Int64)) then ((((RR.toInt64) * (p0_4.toInt64)) / (100 : Int64)) + (1 : Int64)) else (((RR.toInt64) * (p0_4.toInt64)) / (100 : Int64)))))))), (.int (bI (¬ (((p0_2.toInt64) * (100 : Int64)) < ((PP.toInt64) * (p0_3.toInt64))) ∧ (¬ (((p0_2.toInt64) * (100 : Int64)) < ((RR.toInt64) * (p0_4.toInt64)))))))])) _
    refine XS.icmpNo X30.here hx rfl (hb hby at_98) rfl (teq hd33).2 ?_
    show Steps p.tables e below (T30.setTop (mkF m 101 #[.val (.int p0_0), .val (.int p0_1), .val (.int p0_2), .val (.int p0_3), .val (.int p0_4), .val (.int PP), .val (.int RR), .val (.ref b4), .val (.long (if (0 : Int64) < (((PP.toInt64) * (p0_3.toInt64)) - (((PP.toInt64) * (p0_3.toInt64)) / (100 : Int64)) * (100 : Int64)) then ((((PP.toInt64) * (p0_3.toInt64)) / (100 : Int64)) + (1 : Int64)) else (((PP.toInt64) * (p0_3.toInt64)) / (100 : Int64)))), .second, .val (.long (if (0 : Int64) < (((RR.toInt64) * (p0_4.toInt64)) - (((RR.toInt64) * (p0_4.toInt64)) / (100 : Int64)) * (100 : Int64)) then ((((RR.toInt64) * (p0_4.toInt64)) / (100 : Int64)) + (1 : Int64)) else (((RR.toInt64) * (p0_4.toInt64)) / (100 : Int64)))), .second, .val (.int (bI (¬ ((p0_2.toInt64) < (if (0 : Int64) < (((PP.toInt64) * (p0_3.toInt64)) - (((PP.toInt64) * (p0_3.toInt64)) / (100 : Int64)) * (100 : Int64)) then ((((PP.toInt64) * (p0_3.toInt64)) / (100 : Int64)) + (1 : Int64)) else (((PP.toInt64) * (p0_3.toInt64)) / (100 : Int64)))) ∧ (¬ ((p0_2.toInt64) < (if (0 : Int64) < (((RR.toInt64) * (p0_4.toInt64)) - (((RR.toInt64) * (p0_4.toInt64)) / (100 : Int64)) * (100 : Int64)) then ((((RR.toInt64) * (p0_4.toInt64)) / (100 : Int64)) + (1 : Int64)) else (((RR.toInt64) * (p0_4.toInt64)) / (100 : Int64))))))))] [])) _
    refine XS.iconst X30.here hx rfl (hb hby at_101) ?_
    show Steps p.tables e below (T30.setTop (mkF m 102 #[.val (.int p0_0), .val (.int p0_1), .val (.int p0_2), .val (.int p0_3), .val (.int p0_4), .val (.int PP), .val (.int RR), .val (.ref b4), .val (.long (if (0 : Int64) < (((PP.toInt64) * (p0_3.toInt64)) - (((PP.toInt64) * (p0_3.toInt64)) / (100 : Int64)) * (100 : Int64)) then ((((PP.toInt64) * (p0_3.toInt64)) / (100 : Int64)) + (1 : Int64)) else (((PP.toInt64) * (p0_3.toInt64)) / (100 : Int64)))), .second, .val (.long (if (0 : Int64) < (((RR.toInt64) * (p0_4.toInt64)) - (((RR.toInt64) * (p0_4.toInt64)) / (100 : Int64)) * (100 : Int64)) then ((((RR.toInt64) * (p0_4.toInt64)) / (100 : Int64)) + (1 : Int64)) else (((RR.toInt64) * (p0_4.toInt64)) / (100 : Int64)))), .second, .val (.int (bI (¬ ((p0_2.toInt64) < (if (0 : Int64) < (((PP.toInt64) * (p0_3.toInt64)) - (((PP.toInt64) * (p0_3.toInt64)) / (100 : Int64)) * (100 : Int64)) then ((((PP.toInt64) * (p0_3.toInt64)) / (100 : Int64)) + (1 : Int64)) else (((PP.toInt64) * (p0_3.toInt64)) / (100 : Int64)))) ∧ (¬ ((p0_2.toInt64) < (if (0 : Int64) < (((RR.toInt64) * (p0_4.toInt64)) - (((RR.toInt64) * (p0_4.toInt64)) / (100 : Int64)) * (100 : Int64)) then ((((RR.toInt64) * (p0_4.toInt64)) / (100 : Int64)) + (1 : Int64)) else (((RR.toInt64) * (p0_4.toInt64)) / (100 : Int64))))))))] [(.int (1 : Int32))])) _
    refine XS.goto X30.here hx rfl (pc0 := 102) (pc' := 106) rfl (hb hby at_102) (by decide) (by decide) ?_
    show Steps p.tables e below (T30.setTop (mkF m 106 #[.val (.int p0_0), .val (.int p0_1), .val (.int p0_2), .val (.int p0_3), .val (.int p0_4), .val (.int PP), .val (.int RR), .val (.ref b4), .val (.long (if (0 : Int64) < (((PP.toInt64) * (p0_3.toInt64)) - (((PP.toInt64) * (p0_3.toInt64)) / (100 : Int64)) * (100 : Int64)) then ((((PP.toInt64) * (p0_3.toInt64)) / (100 : Int64)) + (1 : Int64)) else (((PP.toInt64) * (p0_3.toInt64)) / (100 : Int64)))), .second, .val (.long (if (0 : Int64) < (((RR.toInt64) * (p0_4.toInt64)) - (((RR.toInt64) * (p0_4.toInt64)) / (100 : Int64)) * (100 : Int64)) then ((((RR.toInt64) * (p0_4.toInt64)) / (100 : Int64)) + (1 : Int64)) else (((RR.toInt64) * (p0_4.toInt64)) / (100 : Int64)))), .second, .val (.int (bI (¬ ((p0_2.toInt64) < (if (0 : Int64) < (((PP.toInt64) * (p0_3.toInt64)) - (((PP.toInt64) * (p0_3.toInt64)) / (100 : Int64)) * (100 : Int64)) then ((((PP.toInt64) * (p0_3.toInt64)) / (100 : Int64)) + (1 : Int64)) else (((PP.toInt64) * (p0_3.toInt64)) / (100 : Int64)))) ∧ (¬ ((p0_2.toInt64) < (if (0 : Int64) < (((RR.toInt64) * (p0_4.toInt64)) - (((RR.toInt64) * (p0_4.toInt64)) / (100 : Int64)) * (100 : Int64)) then ((((RR.toInt64) * (p0_4.toInt64)) / (100 : Int64)) + (1 : Int64)) else (((RR.toInt64) * (p0_4.toInt64)) / (100 : Int64))))))))] [(.int (1 : Int32))])) _
    exact retN X30 hx (t := .boolean) Bd.returns (by simp) (hb hby at_106) hr
  · show Q0 Z p0_0 p0_1 p0_2 p0_3 p0_4 h0 n0 _ T30.heap _
    rw [e30]
    exact ⟨rfl, N31⟩
set_option maxRecDepth 65536 in
set_option maxHeartbeats 40000000 in
theorem comes_1 {Post : Tables → Env → Array Value → State → Outcome → State → Prop} (hpost : ∀ tb e args s v u, (limb_1_1.after args s (.returned v) u = true ∧ limb_1_2.after args s (.returned v) u = true ∧ True) → FrameEnd s (.returned v) u (Jvm.fieldLocs frame_1_writes args s ++ Jvm.arrayLocs frame_1_arrays args s ++ Jvm.staticLocs frame_1_statics s) 16 128 → Post tb e args s (.returned v) u) :
    ArmFor flags0 classFile x code maxLocals ret World_1 tables_1 room_1 Calls_1 rest_1 Pre_1 Post := by
  intro l hfl _ _ p e ha hc hk s m args below hf hA hF happ hP
  obtain ⟨hcalls, hrest, hpre⟩ := hP
  obtain ⟨-, -, -, hnamed, -, -, -, hat⟩ := (Spec.applies_iff hf).mp happ
  obtain ⟨hg, hn⟩ := and_e (Cond.before_iff.mp (show (Jvm.Cond.and given_1 narrow_1).before args s = true from hpre))
  obtain ⟨g1, g2⟩ := and_e hg
  obtain ⟨g3, g4⟩ := and_e g2
  obtain ⟨g5, g6⟩ := and_e g4
  obtain ⟨g7, g8⟩ := and_e g6
  obtain ⟨g9, g10⟩ := and_e g8
  obtain ⟨w0, w1, w2, w3, w4, rfl⟩ : ∃ w0 w1 w2 w3 w4 : Value, args = #[w0, w1, w2, w3, w4] := by
    have hs : args.size = 5 := by simpa [Cond.value, given_1] using g1
    obtain ⟨L⟩ := args
    match L, hs with
    | [w0, w1, w2, w3, w4], _ => exact ⟨w0, w1, w2, w3, w4, rfl⟩
  have hw := fun d (hd : d ∈ tables_1) => atoms_spec (ws := Jvm.Cond.code x code maxLocals ret :: tables_1) hat d (List.mem_cons_of_mem _ hd)
  have hfit : Fit s := fun {y c} hc i hi => by
    obtain ⟨ha, rfl⟩ := Array.getElem?_eq_some_iff.mp hc
    have q := List.all_eq_true.mp ((Array.all_eq_true_iff_forall_mem.mp hF) _ (Array.getElem_mem ha)) i (List.mem_range.mpr hi)
    simpa [Array.getElem?_eq_getElem hi] using q
  obtain ⟨i0, ei0⟩ := is_v g3
  obtain rfl : w0 = (.int i0) := Option.some.inj ei0
  obtain ⟨i1, ei1⟩ := is_v g5
  obtain rfl : w1 = (.int i1) := Option.some.inj ei1
  obtain ⟨i2, ei2⟩ := is_v g7
  obtain rfl : w2 = (.int i2) := Option.some.inj ei2
  obtain ⟨i3, ei3⟩ := is_v g9
  obtain rfl : w3 = (.int i3) := Option.some.inj ei3
  obtain ⟨i4, ei4⟩ := is_v g10
  obtain rfl : w4 = (.int i4) := Option.some.inj ei4
  obtain ⟨n, o, h1, h2, h3, _, L, rfl, ⟨rfl, N⟩, hq⟩ := rm0 l s _ hw tables_1 i0 i1 i2 i3 i4 s.heap s.heap.size (Nat.le_refl _)  p e ha hc hk s m _ below hf ((Spec.applies_iff_loose hf).mp happ).1 ⟨rfl, State.Warmed39.refl s, rfl⟩ trivial
  refine ⟨n, _, h1, h2, h3, hpost _ _ _ _ _ _ ⟨Cond.after_iff.mpr rfl, Cond.after_iff.mpr (eq_i res_at (Term.int_eval (1)) rfl), trivial⟩ ⟨hq.1, hq.2.1, (hq.2.2.sift fun y hy => Or.inr (N y hy)).mono (by decide) (by decide)⟩⟩
theorem main_1_1 : Claimed_1_1 := comes_1 fun _ _ _ _ _ _ h hF => ⟨h.1, hF⟩
theorem main_1_2 : Claimed_1_2 := comes_1 fun _ _ _ _ _ _ h hF => ⟨h.2.1, hF⟩
end Jvm.Pilot.@@N@@
namespace Jvm.Pilot.@@N@@
open Jvm Jvm.ClassFile Sem Op Lib Jvm.Free Jvm.Stand Jvm.Pilot.@@N@@.Jvm.D
/-! MADE BY PROGRAM (witnessworld.py) out of the Statement's table words and the real class files: 10 classes; the members and pool entries that the words name. The judged class is class 1, her method 1. -/
namespace start1
open Jvm.ClassFile
def u (s : String) : CpInfo := .utf8 (stringToUtf16 s)
/-- a pool by its gaps: so many unusable entries, then the entry; so many at the end -/
def gap : Nat → List CpInfo → List CpInfo
  | 0, r => r
  | n + 1, r => .unusable :: gap n r
def poolList (es : List (Nat × CpInfo)) (last : Nat) : List CpInfo := es.foldr (fun e r => gap e.1 (e.2 :: r)) (gap last [])
def pool (es : List (Nat × CpInfo)) (last : Nat) : Array CpInfo := ⟨poolList es last⟩
def fileOf (pool : Array CpInfo) (this : Nat) (attrs : Array Attribute := #[]) (ms : Array MethodInfo := #[]) (fl : Nat := 33) (sup : Nat := 0) (ifs : Array Nat := #[]) (fds : Array FieldInfo := #[]) : ClassFile where
  minorVersion := 0
  majorVersion := 65
  constantPool := pool
  accessFlags := fl
  thisClass := this
  superClass := sup
  interfaces := ifs
  fields := fds
  methods := ms
  attributes := attrs
def plain (name : String) (sup : Option ClassId) : Class where
  name := name
  kind := .ordinary
  loader := none
  accessFlags := 33
  super := sup
  interfaces := #[]
  cf := none
  fields := #[]
  methods := #[]
  instanceTypes := #[]
  staticTypes := #[]
  resolved := #[]
  callSites := []
  init := .initialized
  statics := none
  mirror := none

def pool0 : Array CpInfo := pool [(5, u "<init>"), (0, u "()V"), (1, .class_ 10), (1, u "java/lang/Object")] 113

def k0c0 : Code := { maxStack := 0, maxLocals := 1, code := object_method_1_code, exceptionTable := #[], attributes := #[] }
def k0m0 : Method := { name := "<init>", desc := "()V", sig := { parameters := [], returnType := none }, accessFlags := 1, code := some k0c0 }
/-- java/lang/Object -/
def k0 : Class := { plain "java/lang/Object" none with
  accessFlags := 33
  interfaces := #[]
  cf := some (fileOf pool0 8 #[] #[{ accessFlags := 1, nameIndex := 5, descriptorIndex := 6, attributes := #[] }] 33 0 #[] #[])
  fields := #[]
  methods := #[k0m0]
  instanceTypes := #[]
  staticTypes := #[]
  resolved := Array.replicate 124 none
  statics := none }

def pool1 : Array CpInfo := pool [(2, .class_ 4), (1, u "java/lang/Object"), (0, u "<init>"), (0, u "()V"), (0, .integer 2147483647), (0, .long 101), (1, .long 2147483647), (3, .long 2147483547), (1, .class_ 17), (0, u "com/example/shieldwall/shieldwall/rules/UnitVictory"), (0, .methodref 16 19), (0, .nameAndType 5 20), (0, u "(II)V"), (0, .methodref 22 23), (0, .class_ 24), (0, .nameAndType 25 26), (0, u "com/example/shieldwall/shieldwall/rules/UnitVictoryWinsPinLaw"), (0, u "ceilHundredth"), (0, u "(J)J"), (0, .methodref 16 28), (0, .nameAndType 29 30), (0, u "wins"), (0, u "(III)Z"), (0, .long 100), (3, u "law"), (0, u "(IIIII)Z")] 3

def k1m0 : Method := { name := "<init>", desc := "()V", sig := { parameters := [], returnType := none }, accessFlags := 1, code := none }
def k1c1 : Code := { maxStack := 6, maxLocals := 13, code := code, exceptionTable := #[], attributes := #[] }
def k1m1 : Method := { name := "law", desc := "(IIIII)Z", sig := { parameters := [.int, .int, .int, .int, .int], returnType := some .boolean }, accessFlags := 9, code := some k1c1 }
def k1c2 : Code := { maxStack := 4, maxLocals := 4, code := method_3_code, exceptionTable := #[], attributes := #[] }
def k1m2 : Method := { name := "ceilHundredth", desc := "(J)J", sig := { parameters := [.long], returnType := some .long }, accessFlags := 10, code := some k1c2 }
/-- com/example/shieldwall/shieldwall/rules/UnitVictoryWinsPinLaw -/
def k1 : Class := { plain "com/example/shieldwall/shieldwall/rules/UnitVictoryWinsPinLaw" (some 0) with
  accessFlags := 49
  interfaces := #[]
  cf := some (fileOf pool1 22 #[] #[{ accessFlags := 1, nameIndex := 5, descriptorIndex := 6, attributes := #[] }, { accessFlags := 9, nameIndex := 35, descriptorIndex := 36, attributes := #[] }, { accessFlags := 10, nameIndex := 25, descriptorIndex := 26, attributes := #[] }] 49 2 #[] #[])
  fields := #[]
  methods := #[k1m0, k1m1, k1m2]
  instanceTypes := #[]
  staticTypes := #[]
  resolved := Array.replicate 40 none
  statics := none }

def pool2 : Array CpInfo := pool [(1, .methodref 2 3), (0, .class_ 4), (0, .nameAndType 5 6), (0, u "java/lang/Object"), (0, u "<init>"), (0, u "()V"), (0, .class_ 8), (0, u "java/lang/Record")] 13

def k2c0 : Code := { maxStack := 1, maxLocals := 1, code := jdk_30_method_1_code, exceptionTable := #[], attributes := #[] }
def k2m0 : Method := { name := "<init>", desc := "()V", sig := { parameters := [], returnType := none }, accessFlags := 4, code := some k2c0 }
/-- java/lang/Record -/
def k2 : Class := { plain "java/lang/Record" (some 0) with
  accessFlags := 1057
  interfaces := #[]
  cf := some (fileOf pool2 7 #[] #[{ accessFlags := 4, nameIndex := 5, descriptorIndex := 6, attributes := #[] }] 1057 2 #[] #[])
  fields := #[]
  methods := #[k2m0]
  instanceTypes := #[]
  staticTypes := #[]
  resolved := Array.replicate 22 none
  statics := none }

def pool3 : Array CpInfo := pool [(1, .methodref 2 3), (0, .class_ 4), (0, .nameAndType 5 6), (0, u "java/lang/Record"), (0, u "<init>"), (0, u "()V"), (9, .fieldref 17 18), (0, .class_ 19), (0, .nameAndType 20 21), (0, u "com/example/shieldwall/shieldwall/rules/UnitVictory"), (0, u "percentOfOpponent"), (0, u "I"), (0, .fieldref 17 23), (0, .nameAndType 24 21), (0, u "percentOfSuffered"), (0, .long 100), (13, u "(II)V"), (4, u "wins"), (0, u "(III)Z")] 32

def k3c0 : Code := { maxStack := 4, maxLocals := 3, code := prog_63_method_1_code, exceptionTable := #[], attributes := #[] }
def k3m0 : Method := { name := "<init>", desc := "(II)V", sig := { parameters := [.int, .int], returnType := none }, accessFlags := 1, code := some k3c0 }
def k3c1 : Code := { maxStack := 6, maxLocals := 6, code := prog_63_method_2_code, exceptionTable := #[], attributes := #[] }
def k3m1 : Method := { name := "wins", desc := "(III)Z", sig := { parameters := [.int, .int, .int], returnType := some .boolean }, accessFlags := 1, code := some k3c1 }
/-- com/example/shieldwall/shieldwall/rules/UnitVictory -/
def k3 : Class := { plain "com/example/shieldwall/shieldwall/rules/UnitVictory" (some 2) with
  accessFlags := 49
  interfaces := #[]
  cf := some (fileOf pool3 17 #[] #[{ accessFlags := 1, nameIndex := 5, descriptorIndex := 39, attributes := #[] }, { accessFlags := 1, nameIndex := 44, descriptorIndex := 45, attributes := #[] }] 49 2 #[] #[{ accessFlags := 18, nameIndex := 20, descriptorIndex := 21, attributes := #[] }, { accessFlags := 18, nameIndex := 24, descriptorIndex := 21, attributes := #[] }])
  fields := #[{ name := "percentOfOpponent", type := .int, accessFlags := 18, slot := 0, constantValue := 0 }, { name := "percentOfSuffered", type := .int, accessFlags := 18, slot := 1, constantValue := 0 }]
  methods := #[k3m0, k3m1]
  instanceTypes := #[.int, .int]
  staticTypes := #[]
  resolved := Array.replicate 78 none
  statics := none }

def pool4 : Array CpInfo := pool [(1, u "java/lang/Cloneable"), (0, .class_ 1), (0, u "java/lang/Object"), (0, .class_ 3)] 3

/-- java/lang/Cloneable -/
def k4 : Class := { plain "java/lang/Cloneable" (some 0) with
  accessFlags := 1537
  interfaces := #[]
  cf := some (fileOf pool4 2 #[] #[] 1537 4 #[] #[])
  fields := #[]
  methods := #[]
  instanceTypes := #[]
  staticTypes := #[]
  resolved := Array.replicate 8 none
  statics := none }

def pool5 : Array CpInfo := pool [(1, u "java/io/Serializable"), (0, .class_ 1), (0, u "java/lang/Object"), (0, .class_ 3)] 3

/-- java/io/Serializable -/
def k5 : Class := { plain "java/io/Serializable" (some 0) with
  accessFlags := 1537
  interfaces := #[]
  cf := some (fileOf pool5 2 #[] #[] 1537 4 #[] #[])
  fields := #[]
  methods := #[]
  instanceTypes := #[]
  staticTypes := #[]
  resolved := Array.replicate 8 none
  statics := none }

/-- the primitive byte -/
def k6 : Class := { plain "byte" none with kind := .primitive 'B', accessFlags := 0x411 }
/-- [B -/
def k7 : Class := { plain "[B" (some 0) with kind := .array 6 .byte, interfaces := #[4, 5], accessFlags := 1041 }

/-- the primitive int -/
def k8 : Class := { plain "int" none with kind := .primitive 'I', accessFlags := 0x411 }
/-- [I -/
def k9 : Class := { plain "[I" (some 0) with kind := .array 8 .int, interfaces := #[4, 5], accessFlags := 1041 }

def heap : Heap := #[]
def classes : Array Class := #[k0, k1, k2, k3, k4, k5, k6, k7, k8, k9]
def interned : List (Array UInt16 × Addr) := []
def slotsUsed : Nat := 0
def theMethod : MethodId := ⟨1, 1⟩
def args0 : Array Value := #[.int 5, .int 5, .int 5, .int 5, .int 5]
def aboutOver (below : List Frame) : State where
  vm := { classes := classes, interned := interned.toArray }
  heap := heap
  slotsUsed := slotsUsed
  threads := #[{ frames := .invoking theMethod args0 :: below }]
def below0 : List Frame := [.native { method := ⟨0, 0⟩, args := #[] }]
def about1 : State := aboutOver below0
def p0 : Program := .bare "" "" ""
def e0 : Env := launch0.env 0 0 0
theorem w_frames : about1.frames = Frame.invoking theMethod args0 :: below0 := rfl
set_option maxRecDepth 65536 in
theorem w_args : argsFit about1.vm theMethod args0 = true := by decide +kernel
set_option maxRecDepth 65536 in
theorem w_heap : heapFits about1 = true := by decide +kernel
set_option maxRecDepth 65536 in
theorem w_runnable : about1.curStatus? = some .runnable := by decide +kernel
set_option maxRecDepth 65536 in
theorem w_alone : about1.alone = true := by decide +kernel
set_option maxRecDepth 65536 in
theorem w_named : about1.methodNamed? x = some theMethod := by decide +kernel
set_option maxRecDepth 65536 in
theorem w_hears : about1.hears theMethod below0 = true := by decide +kernel
set_option maxRecDepth 65536 in
theorem w_ripe : about1.ripe theMethod args0 below0 = true := by decide +kernel
theorem w_running : about1.status = .running := rfl
set_option maxRecDepth 65536 in
theorem w_room : about1.hasRoom e0.platform room_1 = true :=
  launch0.hasRoom_least _ room_1 (by decide +kernel) (by decide +kernel) (by decide +kernel) (by decide +kernel) (by decide +kernel) (by decide +kernel)
theorem allAtoms_all (ts : List Jvm.Cond) (a : Array Jvm.Value) (st : Jvm.State) : (allAtoms ts).before a st = ts.all (fun c => c.before a st) := by
  induction ts with
  | nil => rfl
  | cons c t ih =>
    show (Jvm.Cond.and c (allAtoms t)).before a st = _
    rw [Jvm.Cond.before_and, ih, List.all_cons]
def words1 : List Jvm.Cond := Jvm.Cond.code x code maxLocals ret :: tables_1
/-- a 'code' word, met by the world's own term for the bytes: nothing is compared byte by byte -/
theorem code_word {y : MethodName} {bytes : ByteArray} {mx : Nat} {rt : Option FieldType} {a : Array Value} {s : State} {m : MethodId} {meth : Method} {c : Code} (h1 : s.methodNamed? y = some m) (h2 : s.vm.method? m = some meth) (h3 : meth.code = some c) (h4 : c.code = bytes)
    (h5 : (c.maxLocals == mx && c.exceptionTable.isEmpty && decide (c.maxStack ≤ mostOperands) && decide (meth.sig.returnType = rt) && !meth.locks && decide (parseMethodDescriptor y.desc = some meth.sig)) = true) : (Jvm.Cond.code y bytes mx rt).before a s = true := by
  simp only [Bool.and_eq_true, beq_iff_eq, Bool.not_eq_true', decide_eq_true_eq] at h5
  obtain ⟨⟨⟨⟨⟨g1, g2⟩, g3⟩, g4⟩, g5⟩, g6⟩ := h5
  simp [Cond.before, Cond.holds, Cond.value, h1, h2, h3, h4, g1, g2, g3, g4, g5, g6]
def isCode : Jvm.Cond → Bool
  | .code _ _ _ _ => true
  | _ => false
theorem all_split {L : List Jvm.Cond} {P : Jvm.Cond → Bool} (h1 : L.all (fun c => isCode c || P c) = true) (h2 : ∀ c ∈ L.filter isCode, P c = true) : L.all P = true := by
  refine List.all_eq_true.mpr fun c hc => ?_
  have h := List.all_eq_true.mp h1 c hc
  rcases Bool.eq_false_or_eq_true (isCode c) with hi | hi
  · exact h2 c (List.mem_filter.mpr ⟨hc, hi⟩)
  · simpa [hi] using h
set_option maxRecDepth 65536 in
theorem w_c0 : (Jvm.Cond.code x code maxLocals ret).before args0 about1 = true := code_word (m := ⟨1, 1⟩) (meth := k1m1) (c := k1c1) (by decide +kernel) rfl rfl rfl (by decide +kernel)
set_option maxRecDepth 65536 in
theorem w_c1 : (Jvm.Cond.code ({ cls := "com/example/shieldwall/shieldwall/rules/UnitVictory", name := "<init>", desc := "(II)V" } : Jvm.MethodName) prog_63_method_1_code (3 : Nat) (Option.none : Option Jvm.ClassFile.FieldType)).before args0 about1 = true := code_word (m := ⟨3, 0⟩) (meth := k3m0) (c := k3c0) (by decide +kernel) rfl rfl rfl (by decide +kernel)
set_option maxRecDepth 65536 in
theorem w_c2 : (Jvm.Cond.code ({ cls := "java/lang/Record", name := "<init>", desc := "()V" } : Jvm.MethodName) jdk_30_method_1_code (1 : Nat) (Option.none : Option Jvm.ClassFile.FieldType)).before args0 about1 = true := code_word (m := ⟨2, 0⟩) (meth := k2m0) (c := k2c0) (by decide +kernel) rfl rfl rfl (by decide +kernel)
set_option maxRecDepth 65536 in
theorem w_c3 : (Jvm.Cond.code ({ cls := "java/lang/Object", name := "<init>", desc := "()V" } : Jvm.MethodName) object_method_1_code (1 : Nat) (Option.none : Option Jvm.ClassFile.FieldType)).before args0 about1 = true := code_word (m := ⟨0, 0⟩) (meth := k0m0) (c := k0c0) (by decide +kernel) rfl rfl rfl (by decide +kernel)
set_option maxRecDepth 65536 in
theorem w_c4 : (Jvm.Cond.code ({ cls := "com/example/shieldwall/shieldwall/rules/UnitVictoryWinsPinLaw", name := "ceilHundredth", desc := "(J)J" } : Jvm.MethodName) method_3_code (4 : Nat) (Option.some Jvm.ClassFile.FieldType.long)).before args0 about1 = true := code_word (m := ⟨1, 2⟩) (meth := k1m2) (c := k1c2) (by decide +kernel) rfl rfl rfl (by decide +kernel)
set_option maxRecDepth 65536 in
theorem w_c5 : (Jvm.Cond.code ({ cls := "com/example/shieldwall/shieldwall/rules/UnitVictory", name := "wins", desc := "(III)Z" } : Jvm.MethodName) prog_63_method_2_code (6 : Nat) (Option.some Jvm.ClassFile.FieldType.boolean)).before args0 about1 = true := code_word (m := ⟨3, 1⟩) (meth := k3m1) (c := k3c1) (by decide +kernel) rfl rfl rfl (by decide +kernel)
def codes1 : List Jvm.Cond := [Jvm.Cond.code x code maxLocals ret, Jvm.Cond.code ({ cls := "com/example/shieldwall/shieldwall/rules/UnitVictory", name := "<init>", desc := "(II)V" } : Jvm.MethodName) prog_63_method_1_code (3 : Nat) (Option.none : Option Jvm.ClassFile.FieldType), Jvm.Cond.code ({ cls := "java/lang/Record", name := "<init>", desc := "()V" } : Jvm.MethodName) jdk_30_method_1_code (1 : Nat) (Option.none : Option Jvm.ClassFile.FieldType), Jvm.Cond.code ({ cls := "java/lang/Object", name := "<init>", desc := "()V" } : Jvm.MethodName) object_method_1_code (1 : Nat) (Option.none : Option Jvm.ClassFile.FieldType), Jvm.Cond.code ({ cls := "com/example/shieldwall/shieldwall/rules/UnitVictoryWinsPinLaw", name := "ceilHundredth", desc := "(J)J" } : Jvm.MethodName) method_3_code (4 : Nat) (Option.some Jvm.ClassFile.FieldType.long), Jvm.Cond.code ({ cls := "com/example/shieldwall/shieldwall/rules/UnitVictory", name := "wins", desc := "(III)Z" } : Jvm.MethodName) prog_63_method_2_code (6 : Nat) (Option.some Jvm.ClassFile.FieldType.boolean)]
set_option maxRecDepth 65536 in
theorem codes_eq : words1.filter isCode = codes1 := rfl
theorem w_codes : ∀ c ∈ words1.filter isCode, c.before args0 about1 = true := by
  rw [codes_eq]
  intro c hc
  simp only [codes1, List.mem_cons, List.not_mem_nil, or_false] at hc
  rcases hc with rfl | rfl | rfl | rfl | rfl | rfl
  · exact w_c0
  · exact w_c1
  · exact w_c2
  · exact w_c3
  · exact w_c4
  · exact w_c5
set_option maxRecDepth 65536 in
theorem w_t1 : (words1.take 24).all (fun c => isCode c || c.before args0 about1) = true := by decide +kernel
set_option maxRecDepth 65536 in
theorem w_t2 : (words1.drop 24).all (fun c => isCode c || c.before args0 about1) = true := by decide +kernel
theorem w_tables : (allAtoms (Jvm.Cond.code x code maxLocals ret :: tables_1)).before args0 about1 = true := by
  rw [allAtoms_all]
  show words1.all (fun c => c.before args0 about1) = true
  refine all_split ?_ w_codes
  rw [← List.take_append_drop 24 words1, List.all_append, w_t1, w_t2]
  rfl
set_option maxRecDepth 65536 in
theorem w_case : (Jvm.Cond.and given_1 narrow_1).before args0 about1 = true := by decide +kernel
theorem w_applies : (headSpec (Jvm.Cond.code x code maxLocals ret :: tables_1) room_1).applies x e0.platform about1 = true :=
  (Spec.applies_iff w_frames).mpr ⟨w_running, w_runnable, w_alone, w_named, w_hears, w_ripe, w_room, w_tables⟩
theorem atStart : AtStart classFile x code maxLocals ret World_1 tables_1 room_1 Calls_1 rest_1 Pre_1 launch0 p0 e0 about1 theMethod args0 below0 :=
  ⟨lists_1, trivial, launch0.admits_env _ _ _, launch0.least_env, fairChoices_fair.cas, fairChoices_fair.clock, w_frames, w_args, w_heap, w_applies, trivial, trivial, w_case⟩
end start1
theorem witness_1 : WitnessClaimed_1 := ⟨start1.p0, start1.e0, start1.about1, start1.theMethod, start1.args0, start1.below0, start1.atStart⟩
end Jvm.Pilot.@@N@@
