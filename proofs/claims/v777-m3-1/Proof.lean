import JvmDerived
import JvmDerived.Pilot.@@N@@Statement
import JvmDerived.Pilot.@@N@@Code
set_option linter.unusedVariables false
set_option linter.unusedSimpArgs false
namespace Jvm.RoadKit
open Sem ClassFile Op Lib Jvm.Stand Jvm.Free Jvm.LawKit
section New
variable {p : Program} {l : Launch} {e : Env} {R : Room} {s : State} {m : MethodId} {args : Array Value} {below : List Frame} {meth : Method} {c : Code} {T : State} {locs : List Loc} {cells slots : Nat}
theorem retI (X : Stand p l e R s m args below meth c T locs cells slots) (hx : p.tables.exec = Jvm.exec) {pc : Nat} {Ls : Array Slot} {z : Int32} {rest : List Value} (hret : meth.sig.returnType = some .int) (hd : decode c.code pc = .ok (.ireturn, 1)) {fs : List Frame}
    (hl : ∀ (f : JFrame) (acts : List Action), f.method = m → f.locked = none → f.entered = [] → (doReturn e (T.setTop f) acts (some (.int z))).1 = T.setFrames fs) : Steps p.tables e below (T.setTop (mkF m pc Ls (.int z :: rest))) (T.setFrames fs) := by
  have hm' : T.vm.method? m = some meth := X.method'
  have hn : narrow .int (.int z) = .int z := rfl
  show Steps p.tables e below (T.setTop { method := m, pc := pc, locals := Ls, stack := _ :: rest, locked := none }) _
  jvm_step X.here [X.here.top, hx, hd, hm', hret, hn]
  first | (intro acts; rw [hl _ acts rfl rfl rfl]) | rw [hl _ _ rfl rfl rfl]
  exact Steps.refl _
end New
end Jvm.RoadKit
namespace Jvm.Pilot.@@N@@
open Jvm Jvm.ClassFile Sem Op Lib Jvm.Free Jvm.Stand Jvm.LawKit Jvm.RoadKit Bundle Jvm.Pilot.@@N@@.Jvm.D
/-- a boolean of the law's, as the int that the machine holds -/
def bI (P : Prop) [Decidable P] : Int32 := if P then 1 else 0
theorem bI_t {P : Prop} [Decidable P] (h : P) : bI P = (1 : Int32) := if_pos h
theorem bI_f {P : Prop} [Decidable P] (h : ¬ P) : bI P = (0 : Int32) := if_neg h
theorem bI_n {P : Prop} [Decidable P] (h : P) : ¬ (bI P = (0 : Int32)) := by rw [bI_t h]; decide
theorem bI_iff {P Q : Prop} [Decidable P] [Decidable Q] (h : P ↔ Q) : bI P = bI Q := by
  by_cases p : P
  · rw [bI_t p, bI_t (h.mp p)]
  · rw [bI_f p, bI_f fun q => p (h.mpr q)]
theorem bI_nar {P : Prop} [Decidable P] : nar .boolean (bI P) = bI P := by
  by_cases p : P
  · rw [bI_t p]; rfl
  · rw [bI_f p]; rfl
theorem own_feq {a : Term} {k : Int32} {args : Array Value} {s : State} (h : (Jvm.Cond.eq a (.int k)).value args s none s [] = some true) : a.eval args s none [] s = some (.int k) := by
  obtain ⟨x, y, hx, hy, -, kin⟩ := cmp_v (Or.inl h)
  have e : y = .int k := (Option.some.inj (hy.symm.trans (Term.int_eval k)))
  subst e
  obtain ⟨z, rfl⟩ := kin
  have q : (Jvm.Cond.eq a (.int k)).value args s none s [] = some (decide (z = k)) := by simp [Cond.value, hx, hy]
  rw [q] at h
  have e : z = k := of_decide_eq_true (Option.some.inj h)
  rw [hx, e]
theorem own_k (a : Int32) : ((a &&& (2147483647 : Int32)) - ((a &&& (2147483647 : Int32)) / (6 : Int32)) * (6 : Int32)) = (0 : Int32) ∨ ((a &&& (2147483647 : Int32)) - ((a &&& (2147483647 : Int32)) / (6 : Int32)) * (6 : Int32)) = (1 : Int32) ∨ ((a &&& (2147483647 : Int32)) - ((a &&& (2147483647 : Int32)) / (6 : Int32)) * (6 : Int32)) = (2 : Int32) ∨ ((a &&& (2147483647 : Int32)) - ((a &&& (2147483647 : Int32)) / (6 : Int32)) * (6 : Int32)) = (3 : Int32) ∨ ((a &&& (2147483647 : Int32)) - ((a &&& (2147483647 : Int32)) / (6 : Int32)) * (6 : Int32)) = (4 : Int32) ∨ ((a &&& (2147483647 : Int32)) - ((a &&& (2147483647 : Int32)) / (6 : Int32)) * (6 : Int32)) = (5 : Int32) := by
  have e1 := c_mask a 2147483647 31 (by decide) (by decide)
  generalize a &&& (2147483647 : Int32) = x at *
  have h0 : 0 ≤ x.toInt := by rw [e1]; exact Int.emod_nonneg _ (by decide)
  have d := (c_idiv x 6 6 (by decide) (by decide)).1 h0
  have m := c_imul (x / 6) 6
  have s := c_isub x (x / 6 * 6)
  have r0 := rng32 x
  have r1 := rng32 (x / 6 * 6)
  have r2 := rng32 (x - x / 6 * 6)
  have e6 : (6 : Int32).toInt = 6 := by decide
  rw [d, e6] at m
  have b : 0 ≤ (x - x / 6 * 6).toInt ∧ (x - x / 6 * 6).toInt < 6 := by omega
  have z0 : (0 : Int32).toInt = 0 := by decide
  have z1 : (1 : Int32).toInt = 1 := by decide
  have z2 : (2 : Int32).toInt = 2 := by decide
  have z3 : (3 : Int32).toInt = 3 := by decide
  have z4 : (4 : Int32).toInt = 4 := by decide
  have z5 : (5 : Int32).toInt = 5 := by decide
  simp only [← Int32.toInt_inj]
  omega
theorem own_par (x : Int32) : (x - (x / (2 : Int32)) * (2 : Int32)) = (0 : Int32) ↔ (x &&& (1 : Int32)) = (0 : Int32) := by
  have e1 := c_mask x 1 1 (by decide) (by decide)
  have d := c_idiv x 2 2 (by decide) (by decide)
  have m := c_imul (x / 2) 2
  have s := c_isub x (x / 2 * 2)
  have r0 := rng32 x
  have r1 := rng32 (x / 2 * 2)
  have r2 := rng32 (x - x / 2 * 2)
  have r3 := rng32 (x / 2)
  have e2 : (2 : Int32).toInt = 2 := by decide
  have z0 : (0 : Int32).toInt = 0 := by decide
  rw [e2] at m
  simp only [← Int32.toInt_inj, e1, z0]
  by_cases h : 0 ≤ x.toInt
  · have d' := d.1 h
    omega
  · have d' := d.2 (by omega)
    omega
theorem own_finA (col row : Int32) : (if (col - (col / (2 : Int32)) * (2 : Int32)) = (0 : Int32) then (row + (0 : Int32)) else (row + (-1 : Int32))) = (row + (if (bI ((col &&& (1 : Int32)) = (0 : Int32))) = (0 : Int32) then (-1 : Int32) else (0 : Int32))) := by
  by_cases h : (col &&& (1 : Int32)) = (0 : Int32)
  · rw [if_pos ((own_par col).mpr h), if_neg (bI_n h)]
  · rw [if_neg (fun q => h ((own_par col).mp q)), if_pos (bI_f h)]
theorem own_finB (col row : Int32) : (if (col - (col / (2 : Int32)) * (2 : Int32)) = (0 : Int32) then (row + (1 : Int32)) else (row + (0 : Int32))) = (row + (bI (¬ ((bI ((col &&& (1 : Int32)) = (0 : Int32))) = (0 : Int32))))) := by
  by_cases h : (col &&& (1 : Int32)) = (0 : Int32)
  · rw [if_pos ((own_par col).mpr h), bI_t (P := ¬ _) (bI_n h)]
  · rw [if_neg (fun q => h ((own_par col).mp q)), bI_f (P := ¬ _) (fun q => q (bI_f h))]
theorem d1_0 : decode method_2_code 0 = .ok (.iload_n 0, 1) := by decide +kernel
theorem d1_1 : decode method_2_code 1 = .ok (.ifCond .ne 7, 3) := by decide +kernel
theorem d1_4 : decode method_2_code 4 = .ok (.getstatic 7, 3) := by decide +kernel
theorem d1_7 : decode method_2_code 7 = .ok (.areturn, 1) := by decide +kernel
theorem pn_1 : plainName "com/example/shieldwall/shieldwall/model/DirectionRowFromPinLaw" = true := by first | (simp [plainName, overriddenIn]; done) | decide +kernel
theorem ef_1_rm1_0 (m : MethodId)  : entryFrame m #[(.int (0 : Int32))] 1 = mkF m 0 #[.val (.int (0 : Int32))] [] := by first | (simp [entryFrame, mkF, argsToLocals, Value.category]; done) | rfl
def Q1_0 (Z : State) (w1_NORTH : Addr) (h0 : Heap) (n0 : Nat) (v : Option Value) (h : Heap) (L : List Loc) : Prop := v = some (.ref w1_NORTH) ∧ Fr n0 L ∧ h = h0
set_option maxRecDepth 65536 in
set_option maxHeartbeats 40000000 in
theorem rm1_0 (l : Launch) (Z : State) (a0 : Array Value) (hw : ∀ d ∈ tables_1, d.before a0 Z = true) (ws : List Jvm.Cond) (w1_NORTH : Addr) (h0 : Heap) (n0 : Nat) (Z0 : n0 ≤ h0.size) (O0 : Old Z n0 h0) (S_NORTH : Sta Z Z.heap "com/example/shieldwall/shieldwall/model/Direction" "NORTH" "Lcom/example/shieldwall/shieldwall/model/Direction;" (.ref w1_NORTH)) :
    MetFree l (⟨"com/example/shieldwall/shieldwall/model/DirectionRowFromPinLaw", "pick", "(I)Lcom/example/shieldwall/shieldwall/model/Direction;"⟩ : MethodName) (head1 (Jvm.Cond.code (⟨"com/example/shieldwall/shieldwall/model/DirectionRowFromPinLaw", "pick", "(I)Lcom/example/shieldwall/shieldwall/model/Direction;"⟩ : MethodName) method_2_code 1 (some (.object "com/example/shieldwall/shieldwall/model/Direction")) :: ws) ({ frames := 0, cells := 0, slots := 0, locals := 0 } : Room)) (fun a U => a = #[(.int (0 : Int32))] ∧ Z.Warmed39 U.vm ∧ U.heap = h0) (fun _ _ _ _ _ => True) (fun _ U o U' => ∃ v L, o = .returned v ∧ Q1_0 Z w1_NORTH h0 n0 v U'.heap L ∧ FrameEnd U o U' L ({ frames := 0, cells := 0, slots := 0, locals := 0 } : Room).cells ({ frames := 0, cells := 0, slots := 0, locals := 0 } : Room).slots) := by
  refine MetFree.of_bodySF (plainFor_of_name pn_1) hisR ?_
  intro p e s m args below meth c s₁ Bd hml0 hP hK
  obtain ⟨rfl, hZ, hh⟩ := hP
  have hVV : ∀ (i : Nat) (d : Jvm.Cond), tables_1[i]? = some d → d.before a0 Z = true := fun i d h => hw d (List.mem_of_getElem? h)
  have hx := Bd.exec
  have hby := Bd.bytes
  have hml : c.maxLocals = 1 := hml0
  have hown : s.vm.findClass "com/example/shieldwall/shieldwall/model/DirectionRowFromPinLaw" = some m.cls := findClass_of_methodNamed Bd.named
  have hnm := (name_of_methodNamed Bd.named Bd.method).1
  have X0 : Stand p l e ({ frames := 0, cells := 0, slots := 0, locals := 0 } : Room) s m #[(.int (0 : Int32))] below meth c s₁ [] 0 0 := Stand.of_body Bd
  have e0 : s₁.heap = h0 := by rw [← hh, Bd.state]; rfl
  have N0 := Fr.nil n0
  have pre0 : ∀ t, Steps p.tables e below (s₁.setTop (mkF m 0 #[.val (.int (0 : Int32))] [])) t → Steps p.tables e below (s₁.setTop (entryFrame m #[(.int (0 : Int32))] 1)) t := fun t k => castTop (ef_1_rm1_0 m ) k
  obtain ⟨T1, X1, e1, st1⟩ := getS2 X0 hx hZ hown (host := "") (Or.inl (hVV 5 _ rfl)) Via.refl e0 (S_NORTH.ext O0.2) (g := (mkF m 4 #[.val (.int (0 : Int32))] [])) rfl (hb hby d1_4)
  have pre2 : ∀ t, Steps p.tables e below (T1.setTop (mkF m 7 #[.val (.int (0 : Int32))] [(.ref w1_NORTH)])) t → Steps p.tables e below (s₁.setTop (entryFrame m #[(.int (0 : Int32))] 1)) t := fun t k => pre0 t (by
    show Steps p.tables e below (s₁.setTop (mkF m 0 #[.val (.int (0 : Int32))] [])) _
    refine XS.iloadN X0.here hx rfl (hb hby d1_0) rfl ?_
    show Steps p.tables e below (s₁.setTop (mkF m 1 #[.val (.int (0 : Int32))] [(.int (0 : Int32))])) _
    refine XS.ifNo X0.here hx rfl (hb hby d1_1) rfl ((if0 _ _).trans (teq (by decide : (0 : Int32) = (0 : Int32))).2) ?_
    show Steps p.tables e below (s₁.setTop (mkF m 4 #[.val (.int (0 : Int32))] [])) _
    refine st1 _ ?_
    exact k)
  obtain ⟨fs, hr, hrun, hended, hW, hsame⟩ := X1.leave (v := some (.ref w1_NORTH)) (fun h => by rw [Bd.returns] at h; cases h)
  refine ⟨_, _, pre2 _ ?_, hrun, hended, _, _, rfl, ?_, ⟨_, rfl⟩, hW, hsame.mono (by decide) (by decide)⟩
  · show Steps p.tables e below (T1.setTop (mkF m 7 #[.val (.int (0 : Int32))] [(.ref w1_NORTH)])) _
    jvm_step X1.here [X1.here.top, hx, (hb hby d1_7), X1.method', Bd.returns, Value.isRef, FieldType.isReference]
    first | (intro acts; rw [hr _ acts rfl rfl rfl]) | rw [hr _ _ rfl rfl rfl]
    exact Steps.refl _
  · show Q1_0 Z w1_NORTH h0 n0 _ T1.heap _
    rw [e1]
    exact ⟨rfl, N0, rfl⟩
theorem d1_8 : decode method_2_code 8 = .ok (.iload_n 0, 1) := by decide +kernel
theorem d1_9 : decode method_2_code 9 = .ok (.iconst 1, 1) := by decide +kernel
theorem d1_10 : decode method_2_code 10 = .ok (.if_icmp .ne 7, 3) := by decide +kernel
theorem d1_13 : decode method_2_code 13 = .ok (.getstatic 13, 3) := by decide +kernel
theorem d1_16 : decode method_2_code 16 = .ok (.areturn, 1) := by decide +kernel
theorem ef_1_rm1_1 (m : MethodId)  : entryFrame m #[(.int (1 : Int32))] 1 = mkF m 0 #[.val (.int (1 : Int32))] [] := by first | (simp [entryFrame, mkF, argsToLocals, Value.category]; done) | rfl
def Q1_1 (Z : State) (w1_NORTH_EAST : Addr) (h0 : Heap) (n0 : Nat) (v : Option Value) (h : Heap) (L : List Loc) : Prop := v = some (.ref w1_NORTH_EAST) ∧ Fr n0 L ∧ h = h0
set_option maxRecDepth 65536 in
set_option maxHeartbeats 40000000 in
theorem rm1_1 (l : Launch) (Z : State) (a0 : Array Value) (hw : ∀ d ∈ tables_1, d.before a0 Z = true) (ws : List Jvm.Cond) (w1_NORTH_EAST : Addr) (h0 : Heap) (n0 : Nat) (Z0 : n0 ≤ h0.size) (O0 : Old Z n0 h0) (S_NORTH_EAST : Sta Z Z.heap "com/example/shieldwall/shieldwall/model/Direction" "NORTH_EAST" "Lcom/example/shieldwall/shieldwall/model/Direction;" (.ref w1_NORTH_EAST)) :
    MetFree l (⟨"com/example/shieldwall/shieldwall/model/DirectionRowFromPinLaw", "pick", "(I)Lcom/example/shieldwall/shieldwall/model/Direction;"⟩ : MethodName) (head1 (Jvm.Cond.code (⟨"com/example/shieldwall/shieldwall/model/DirectionRowFromPinLaw", "pick", "(I)Lcom/example/shieldwall/shieldwall/model/Direction;"⟩ : MethodName) method_2_code 1 (some (.object "com/example/shieldwall/shieldwall/model/Direction")) :: ws) ({ frames := 0, cells := 0, slots := 0, locals := 0 } : Room)) (fun a U => a = #[(.int (1 : Int32))] ∧ Z.Warmed39 U.vm ∧ U.heap = h0) (fun _ _ _ _ _ => True) (fun _ U o U' => ∃ v L, o = .returned v ∧ Q1_1 Z w1_NORTH_EAST h0 n0 v U'.heap L ∧ FrameEnd U o U' L ({ frames := 0, cells := 0, slots := 0, locals := 0 } : Room).cells ({ frames := 0, cells := 0, slots := 0, locals := 0 } : Room).slots) := by
  refine MetFree.of_bodySF (plainFor_of_name pn_1) hisR ?_
  intro p e s m args below meth c s₁ Bd hml0 hP hK
  obtain ⟨rfl, hZ, hh⟩ := hP
  have hVV : ∀ (i : Nat) (d : Jvm.Cond), tables_1[i]? = some d → d.before a0 Z = true := fun i d h => hw d (List.mem_of_getElem? h)
  have hx := Bd.exec
  have hby := Bd.bytes
  have hml : c.maxLocals = 1 := hml0
  have hown : s.vm.findClass "com/example/shieldwall/shieldwall/model/DirectionRowFromPinLaw" = some m.cls := findClass_of_methodNamed Bd.named
  have hnm := (name_of_methodNamed Bd.named Bd.method).1
  have X0 : Stand p l e ({ frames := 0, cells := 0, slots := 0, locals := 0 } : Room) s m #[(.int (1 : Int32))] below meth c s₁ [] 0 0 := Stand.of_body Bd
  have e0 : s₁.heap = h0 := by rw [← hh, Bd.state]; rfl
  have N0 := Fr.nil n0
  have pre0 : ∀ t, Steps p.tables e below (s₁.setTop (mkF m 0 #[.val (.int (1 : Int32))] [])) t → Steps p.tables e below (s₁.setTop (entryFrame m #[(.int (1 : Int32))] 1)) t := fun t k => castTop (ef_1_rm1_1 m ) k
  obtain ⟨T1, X1, e1, st1⟩ := getS2 X0 hx hZ hown (host := "") (Or.inl (hVV 18 _ rfl)) Via.refl e0 (S_NORTH_EAST.ext O0.2) (g := (mkF m 13 #[.val (.int (1 : Int32))] [])) rfl (hb hby d1_13)
  have pre2 : ∀ t, Steps p.tables e below (T1.setTop (mkF m 16 #[.val (.int (1 : Int32))] [(.ref w1_NORTH_EAST)])) t → Steps p.tables e below (s₁.setTop (entryFrame m #[(.int (1 : Int32))] 1)) t := fun t k => pre0 t (by
    show Steps p.tables e below (s₁.setTop (mkF m 0 #[.val (.int (1 : Int32))] [])) _
    refine XS.iloadN X0.here hx rfl (hb hby d1_0) rfl ?_
    show Steps p.tables e below (s₁.setTop (mkF m 1 #[.val (.int (1 : Int32))] [(.int (1 : Int32))])) _
    refine XS.ifYes X0.here hx rfl (pc0 := 1) (pc' := 8) rfl (hb hby d1_1) rfl ((if0 _ _).trans (feq (by decide : ¬ ((1 : Int32) = (0 : Int32)))).2) (by decide) (by decide) ?_
    show Steps p.tables e below (s₁.setTop (mkF m 8 #[.val (.int (1 : Int32))] [])) _
    refine XS.iloadN X0.here hx rfl (hb hby d1_8) rfl ?_
    show Steps p.tables e below (s₁.setTop (mkF m 9 #[.val (.int (1 : Int32))] [(.int (1 : Int32))])) _
    refine XS.iconst X0.here hx rfl (hb hby d1_9) ?_
    show Steps p.tables e below (s₁.setTop (mkF m 10 #[.val (.int (1 : Int32))] [(.int (1 : Int32)), (.int (1 : Int32))])) _
    refine XS.icmpNo X0.here hx rfl (hb hby d1_10) rfl (teq (by decide : (1 : Int32) = (1 : Int32))).2 ?_
    show Steps p.tables e below (s₁.setTop (mkF m 13 #[.val (.int (1 : Int32))] [])) _
    refine st1 _ ?_
    exact k)
  obtain ⟨fs, hr, hrun, hended, hW, hsame⟩ := X1.leave (v := some (.ref w1_NORTH_EAST)) (fun h => by rw [Bd.returns] at h; cases h)
  refine ⟨_, _, pre2 _ ?_, hrun, hended, _, _, rfl, ?_, ⟨_, rfl⟩, hW, hsame.mono (by decide) (by decide)⟩
  · show Steps p.tables e below (T1.setTop (mkF m 16 #[.val (.int (1 : Int32))] [(.ref w1_NORTH_EAST)])) _
    jvm_step X1.here [X1.here.top, hx, (hb hby d1_16), X1.method', Bd.returns, Value.isRef, FieldType.isReference]
    first | (intro acts; rw [hr _ acts rfl rfl rfl]) | rw [hr _ _ rfl rfl rfl]
    exact Steps.refl _
  · show Q1_1 Z w1_NORTH_EAST h0 n0 _ T1.heap _
    rw [e1]
    exact ⟨rfl, N0, rfl⟩
theorem d1_17 : decode method_2_code 17 = .ok (.iload_n 0, 1) := by decide +kernel
theorem d1_18 : decode method_2_code 18 = .ok (.iconst 2, 1) := by decide +kernel
theorem d1_19 : decode method_2_code 19 = .ok (.if_icmp .ne 7, 3) := by decide +kernel
theorem d1_22 : decode method_2_code 22 = .ok (.getstatic 16, 3) := by decide +kernel
theorem d1_25 : decode method_2_code 25 = .ok (.areturn, 1) := by decide +kernel
theorem ef_1_rm1_2 (m : MethodId)  : entryFrame m #[(.int (2 : Int32))] 1 = mkF m 0 #[.val (.int (2 : Int32))] [] := by first | (simp [entryFrame, mkF, argsToLocals, Value.category]; done) | rfl
def Q1_2 (Z : State) (w1_SOUTH_EAST : Addr) (h0 : Heap) (n0 : Nat) (v : Option Value) (h : Heap) (L : List Loc) : Prop := v = some (.ref w1_SOUTH_EAST) ∧ Fr n0 L ∧ h = h0
set_option maxRecDepth 65536 in
set_option maxHeartbeats 40000000 in
theorem rm1_2 (l : Launch) (Z : State) (a0 : Array Value) (hw : ∀ d ∈ tables_1, d.before a0 Z = true) (ws : List Jvm.Cond) (w1_SOUTH_EAST : Addr) (h0 : Heap) (n0 : Nat) (Z0 : n0 ≤ h0.size) (O0 : Old Z n0 h0) (S_SOUTH_EAST : Sta Z Z.heap "com/example/shieldwall/shieldwall/model/Direction" "SOUTH_EAST" "Lcom/example/shieldwall/shieldwall/model/Direction;" (.ref w1_SOUTH_EAST)) :
    MetFree l (⟨"com/example/shieldwall/shieldwall/model/DirectionRowFromPinLaw", "pick", "(I)Lcom/example/shieldwall/shieldwall/model/Direction;"⟩ : MethodName) (head1 (Jvm.Cond.code (⟨"com/example/shieldwall/shieldwall/model/DirectionRowFromPinLaw", "pick", "(I)Lcom/example/shieldwall/shieldwall/model/Direction;"⟩ : MethodName) method_2_code 1 (some (.object "com/example/shieldwall/shieldwall/model/Direction")) :: ws) ({ frames := 0, cells := 0, slots := 0, locals := 0 } : Room)) (fun a U => a = #[(.int (2 : Int32))] ∧ Z.Warmed39 U.vm ∧ U.heap = h0) (fun _ _ _ _ _ => True) (fun _ U o U' => ∃ v L, o = .returned v ∧ Q1_2 Z w1_SOUTH_EAST h0 n0 v U'.heap L ∧ FrameEnd U o U' L ({ frames := 0, cells := 0, slots := 0, locals := 0 } : Room).cells ({ frames := 0, cells := 0, slots := 0, locals := 0 } : Room).slots) := by
  refine MetFree.of_bodySF (plainFor_of_name pn_1) hisR ?_
  intro p e s m args below meth c s₁ Bd hml0 hP hK
  obtain ⟨rfl, hZ, hh⟩ := hP
  have hVV : ∀ (i : Nat) (d : Jvm.Cond), tables_1[i]? = some d → d.before a0 Z = true := fun i d h => hw d (List.mem_of_getElem? h)
  have hx := Bd.exec
  have hby := Bd.bytes
  have hml : c.maxLocals = 1 := hml0
  have hown : s.vm.findClass "com/example/shieldwall/shieldwall/model/DirectionRowFromPinLaw" = some m.cls := findClass_of_methodNamed Bd.named
  have hnm := (name_of_methodNamed Bd.named Bd.method).1
  have X0 : Stand p l e ({ frames := 0, cells := 0, slots := 0, locals := 0 } : Room) s m #[(.int (2 : Int32))] below meth c s₁ [] 0 0 := Stand.of_body Bd
  have e0 : s₁.heap = h0 := by rw [← hh, Bd.state]; rfl
  have N0 := Fr.nil n0
  have pre0 : ∀ t, Steps p.tables e below (s₁.setTop (mkF m 0 #[.val (.int (2 : Int32))] [])) t → Steps p.tables e below (s₁.setTop (entryFrame m #[(.int (2 : Int32))] 1)) t := fun t k => castTop (ef_1_rm1_2 m ) k
  obtain ⟨T1, X1, e1, st1⟩ := getS2 X0 hx hZ hown (host := "") (Or.inl (hVV 22 _ rfl)) Via.refl e0 (S_SOUTH_EAST.ext O0.2) (g := (mkF m 22 #[.val (.int (2 : Int32))] [])) rfl (hb hby d1_22)
  have pre2 : ∀ t, Steps p.tables e below (T1.setTop (mkF m 25 #[.val (.int (2 : Int32))] [(.ref w1_SOUTH_EAST)])) t → Steps p.tables e below (s₁.setTop (entryFrame m #[(.int (2 : Int32))] 1)) t := fun t k => pre0 t (by
    show Steps p.tables e below (s₁.setTop (mkF m 0 #[.val (.int (2 : Int32))] [])) _
    refine XS.iloadN X0.here hx rfl (hb hby d1_0) rfl ?_
    show Steps p.tables e below (s₁.setTop (mkF m 1 #[.val (.int (2 : Int32))] [(.int (2 : Int32))])) _
    refine XS.ifYes X0.here hx rfl (pc0 := 1) (pc' := 8) rfl (hb hby d1_1) rfl ((if0 _ _).trans (feq (by decide : ¬ ((2 : Int32) = (0 : Int32)))).2) (by decide) (by decide) ?_
    show Steps p.tables e below (s₁.setTop (mkF m 8 #[.val (.int (2 : Int32))] [])) _
    refine XS.iloadN X0.here hx rfl (hb hby d1_8) rfl ?_
    show Steps p.tables e below (s₁.setTop (mkF m 9 #[.val (.int (2 : Int32))] [(.int (2 : Int32))])) _
    refine XS.iconst X0.here hx rfl (hb hby d1_9) ?_
    show Steps p.tables e below (s₁.setTop (mkF m 10 #[.val (.int (2 : Int32))] [(.int (1 : Int32)), (.int (2 : Int32))])) _
    refine XS.icmpYes X0.here hx rfl (pc0 := 10) (pc' := 17) rfl (hb hby d1_10) rfl (feq (by decide : ¬ ((2 : Int32) = (1 : Int32)))).2 (by decide) (by decide) ?_
    show Steps p.tables e below (s₁.setTop (mkF m 17 #[.val (.int (2 : Int32))] [])) _
    refine XS.iloadN X0.here hx rfl (hb hby d1_17) rfl ?_
    show Steps p.tables e below (s₁.setTop (mkF m 18 #[.val (.int (2 : Int32))] [(.int (2 : Int32))])) _
    refine XS.iconst X0.here hx rfl (hb hby d1_18) ?_
    show Steps p.tables e below (s₁.setTop (mkF m 19 #[.val (.int (2 : Int32))] [(.int (2 : Int32)), (.int (2 : Int32))])) _
    refine XS.icmpNo X0.here hx rfl (hb hby d1_19) rfl (teq (by decide : (2 : Int32) = (2 : Int32))).2 ?_
    show Steps p.tables e below (s₁.setTop (mkF m 22 #[.val (.int (2 : Int32))] [])) _
    refine st1 _ ?_
    exact k)
  obtain ⟨fs, hr, hrun, hended, hW, hsame⟩ := X1.leave (v := some (.ref w1_SOUTH_EAST)) (fun h => by rw [Bd.returns] at h; cases h)
  refine ⟨_, _, pre2 _ ?_, hrun, hended, _, _, rfl, ?_, ⟨_, rfl⟩, hW, hsame.mono (by decide) (by decide)⟩
  · show Steps p.tables e below (T1.setTop (mkF m 25 #[.val (.int (2 : Int32))] [(.ref w1_SOUTH_EAST)])) _
    jvm_step X1.here [X1.here.top, hx, (hb hby d1_25), X1.method', Bd.returns, Value.isRef, FieldType.isReference]
    first | (intro acts; rw [hr _ acts rfl rfl rfl]) | rw [hr _ _ rfl rfl rfl]
    exact Steps.refl _
  · show Q1_2 Z w1_SOUTH_EAST h0 n0 _ T1.heap _
    rw [e1]
    exact ⟨rfl, N0, rfl⟩
theorem d1_26 : decode method_2_code 26 = .ok (.iload_n 0, 1) := by decide +kernel
theorem d1_27 : decode method_2_code 27 = .ok (.iconst 3, 1) := by decide +kernel
theorem d1_28 : decode method_2_code 28 = .ok (.if_icmp .ne 7, 3) := by decide +kernel
theorem d1_31 : decode method_2_code 31 = .ok (.getstatic 19, 3) := by decide +kernel
theorem d1_34 : decode method_2_code 34 = .ok (.areturn, 1) := by decide +kernel
theorem ef_1_rm1_3 (m : MethodId)  : entryFrame m #[(.int (3 : Int32))] 1 = mkF m 0 #[.val (.int (3 : Int32))] [] := by first | (simp [entryFrame, mkF, argsToLocals, Value.category]; done) | rfl
def Q1_3 (Z : State) (w1_SOUTH : Addr) (h0 : Heap) (n0 : Nat) (v : Option Value) (h : Heap) (L : List Loc) : Prop := v = some (.ref w1_SOUTH) ∧ Fr n0 L ∧ h = h0
set_option maxRecDepth 65536 in
set_option maxHeartbeats 40000000 in
theorem rm1_3 (l : Launch) (Z : State) (a0 : Array Value) (hw : ∀ d ∈ tables_1, d.before a0 Z = true) (ws : List Jvm.Cond) (w1_SOUTH : Addr) (h0 : Heap) (n0 : Nat) (Z0 : n0 ≤ h0.size) (O0 : Old Z n0 h0) (S_SOUTH : Sta Z Z.heap "com/example/shieldwall/shieldwall/model/Direction" "SOUTH" "Lcom/example/shieldwall/shieldwall/model/Direction;" (.ref w1_SOUTH)) :
    MetFree l (⟨"com/example/shieldwall/shieldwall/model/DirectionRowFromPinLaw", "pick", "(I)Lcom/example/shieldwall/shieldwall/model/Direction;"⟩ : MethodName) (head1 (Jvm.Cond.code (⟨"com/example/shieldwall/shieldwall/model/DirectionRowFromPinLaw", "pick", "(I)Lcom/example/shieldwall/shieldwall/model/Direction;"⟩ : MethodName) method_2_code 1 (some (.object "com/example/shieldwall/shieldwall/model/Direction")) :: ws) ({ frames := 0, cells := 0, slots := 0, locals := 0 } : Room)) (fun a U => a = #[(.int (3 : Int32))] ∧ Z.Warmed39 U.vm ∧ U.heap = h0) (fun _ _ _ _ _ => True) (fun _ U o U' => ∃ v L, o = .returned v ∧ Q1_3 Z w1_SOUTH h0 n0 v U'.heap L ∧ FrameEnd U o U' L ({ frames := 0, cells := 0, slots := 0, locals := 0 } : Room).cells ({ frames := 0, cells := 0, slots := 0, locals := 0 } : Room).slots) := by
  refine MetFree.of_bodySF (plainFor_of_name pn_1) hisR ?_
  intro p e s m args below meth c s₁ Bd hml0 hP hK
  obtain ⟨rfl, hZ, hh⟩ := hP
  have hVV : ∀ (i : Nat) (d : Jvm.Cond), tables_1[i]? = some d → d.before a0 Z = true := fun i d h => hw d (List.mem_of_getElem? h)
  have hx := Bd.exec
  have hby := Bd.bytes
  have hml : c.maxLocals = 1 := hml0
  have hown : s.vm.findClass "com/example/shieldwall/shieldwall/model/DirectionRowFromPinLaw" = some m.cls := findClass_of_methodNamed Bd.named
  have hnm := (name_of_methodNamed Bd.named Bd.method).1
  have X0 : Stand p l e ({ frames := 0, cells := 0, slots := 0, locals := 0 } : Room) s m #[(.int (3 : Int32))] below meth c s₁ [] 0 0 := Stand.of_body Bd
  have e0 : s₁.heap = h0 := by rw [← hh, Bd.state]; rfl
  have N0 := Fr.nil n0
  have pre0 : ∀ t, Steps p.tables e below (s₁.setTop (mkF m 0 #[.val (.int (3 : Int32))] [])) t → Steps p.tables e below (s₁.setTop (entryFrame m #[(.int (3 : Int32))] 1)) t := fun t k => castTop (ef_1_rm1_3 m ) k
  obtain ⟨T1, X1, e1, st1⟩ := getS2 X0 hx hZ hown (host := "") (Or.inl (hVV 26 _ rfl)) Via.refl e0 (S_SOUTH.ext O0.2) (g := (mkF m 31 #[.val (.int (3 : Int32))] [])) rfl (hb hby d1_31)
  have pre2 : ∀ t, Steps p.tables e below (T1.setTop (mkF m 34 #[.val (.int (3 : Int32))] [(.ref w1_SOUTH)])) t → Steps p.tables e below (s₁.setTop (entryFrame m #[(.int (3 : Int32))] 1)) t := fun t k => pre0 t (by
    show Steps p.tables e below (s₁.setTop (mkF m 0 #[.val (.int (3 : Int32))] [])) _
    refine XS.iloadN X0.here hx rfl (hb hby d1_0) rfl ?_
    show Steps p.tables e below (s₁.setTop (mkF m 1 #[.val (.int (3 : Int32))] [(.int (3 : Int32))])) _
    refine XS.ifYes X0.here hx rfl (pc0 := 1) (pc' := 8) rfl (hb hby d1_1) rfl ((if0 _ _).trans (feq (by decide : ¬ ((3 : Int32) = (0 : Int32)))).2) (by decide) (by decide) ?_
    show Steps p.tables e below (s₁.setTop (mkF m 8 #[.val (.int (3 : Int32))] [])) _
    refine XS.iloadN X0.here hx rfl (hb hby d1_8) rfl ?_
    show Steps p.tables e below (s₁.setTop (mkF m 9 #[.val (.int (3 : Int32))] [(.int (3 : Int32))])) _
    refine XS.iconst X0.here hx rfl (hb hby d1_9) ?_
    show Steps p.tables e below (s₁.setTop (mkF m 10 #[.val (.int (3 : Int32))] [(.int (1 : Int32)), (.int (3 : Int32))])) _
    refine XS.icmpYes X0.here hx rfl (pc0 := 10) (pc' := 17) rfl (hb hby d1_10) rfl (feq (by decide : ¬ ((3 : Int32) = (1 : Int32)))).2 (by decide) (by decide) ?_
    show Steps p.tables e below (s₁.setTop (mkF m 17 #[.val (.int (3 : Int32))] [])) _
    refine XS.iloadN X0.here hx rfl (hb hby d1_17) rfl ?_
    show Steps p.tables e below (s₁.setTop (mkF m 18 #[.val (.int (3 : Int32))] [(.int (3 : Int32))])) _
    refine XS.iconst X0.here hx rfl (hb hby d1_18) ?_
    show Steps p.tables e below (s₁.setTop (mkF m 19 #[.val (.int (3 : Int32))] [(.int (2 : Int32)), (.int (3 : Int32))])) _
    refine XS.icmpYes X0.here hx rfl (pc0 := 19) (pc' := 26) rfl (hb hby d1_19) rfl (feq (by decide : ¬ ((3 : Int32) = (2 : Int32)))).2 (by decide) (by decide) ?_
    show Steps p.tables e below (s₁.setTop (mkF m 26 #[.val (.int (3 : Int32))] [])) _
    refine XS.iloadN X0.here hx rfl (hb hby d1_26) rfl ?_
    show Steps p.tables e below (s₁.setTop (mkF m 27 #[.val (.int (3 : Int32))] [(.int (3 : Int32))])) _
    refine XS.iconst X0.here hx rfl (hb hby d1_27) ?_
    show Steps p.tables e below (s₁.setTop (mkF m 28 #[.val (.int (3 : Int32))] [(.int (3 : Int32)), (.int (3 : Int32))])) _
    refine XS.icmpNo X0.here hx rfl (hb hby d1_28) rfl (teq (by decide : (3 : Int32) = (3 : Int32))).2 ?_
    show Steps p.tables e below (s₁.setTop (mkF m 31 #[.val (.int (3 : Int32))] [])) _
    refine st1 _ ?_
    exact k)
  obtain ⟨fs, hr, hrun, hended, hW, hsame⟩ := X1.leave (v := some (.ref w1_SOUTH)) (fun h => by rw [Bd.returns] at h; cases h)
  refine ⟨_, _, pre2 _ ?_, hrun, hended, _, _, rfl, ?_, ⟨_, rfl⟩, hW, hsame.mono (by decide) (by decide)⟩
  · show Steps p.tables e below (T1.setTop (mkF m 34 #[.val (.int (3 : Int32))] [(.ref w1_SOUTH)])) _
    jvm_step X1.here [X1.here.top, hx, (hb hby d1_34), X1.method', Bd.returns, Value.isRef, FieldType.isReference]
    first | (intro acts; rw [hr _ acts rfl rfl rfl]) | rw [hr _ _ rfl rfl rfl]
    exact Steps.refl _
  · show Q1_3 Z w1_SOUTH h0 n0 _ T1.heap _
    rw [e1]
    exact ⟨rfl, N0, rfl⟩
theorem d1_35 : decode method_2_code 35 = .ok (.iload_n 0, 1) := by decide +kernel
theorem d1_36 : decode method_2_code 36 = .ok (.iconst 4, 1) := by decide +kernel
theorem d1_37 : decode method_2_code 37 = .ok (.if_icmp .ne 7, 3) := by decide +kernel
theorem d1_40 : decode method_2_code 40 = .ok (.getstatic 22, 3) := by decide +kernel
theorem d1_43 : decode method_2_code 43 = .ok (.areturn, 1) := by decide +kernel
theorem ef_1_rm1_4 (m : MethodId)  : entryFrame m #[(.int (4 : Int32))] 1 = mkF m 0 #[.val (.int (4 : Int32))] [] := by first | (simp [entryFrame, mkF, argsToLocals, Value.category]; done) | rfl
def Q1_4 (Z : State) (w1_SOUTH_WEST : Addr) (h0 : Heap) (n0 : Nat) (v : Option Value) (h : Heap) (L : List Loc) : Prop := v = some (.ref w1_SOUTH_WEST) ∧ Fr n0 L ∧ h = h0
set_option maxRecDepth 65536 in
set_option maxHeartbeats 40000000 in
theorem rm1_4 (l : Launch) (Z : State) (a0 : Array Value) (hw : ∀ d ∈ tables_1, d.before a0 Z = true) (ws : List Jvm.Cond) (w1_SOUTH_WEST : Addr) (h0 : Heap) (n0 : Nat) (Z0 : n0 ≤ h0.size) (O0 : Old Z n0 h0) (S_SOUTH_WEST : Sta Z Z.heap "com/example/shieldwall/shieldwall/model/Direction" "SOUTH_WEST" "Lcom/example/shieldwall/shieldwall/model/Direction;" (.ref w1_SOUTH_WEST)) :
    MetFree l (⟨"com/example/shieldwall/shieldwall/model/DirectionRowFromPinLaw", "pick", "(I)Lcom/example/shieldwall/shieldwall/model/Direction;"⟩ : MethodName) (head1 (Jvm.Cond.code (⟨"com/example/shieldwall/shieldwall/model/DirectionRowFromPinLaw", "pick", "(I)Lcom/example/shieldwall/shieldwall/model/Direction;"⟩ : MethodName) method_2_code 1 (some (.object "com/example/shieldwall/shieldwall/model/Direction")) :: ws) ({ frames := 0, cells := 0, slots := 0, locals := 0 } : Room)) (fun a U => a = #[(.int (4 : Int32))] ∧ Z.Warmed39 U.vm ∧ U.heap = h0) (fun _ _ _ _ _ => True) (fun _ U o U' => ∃ v L, o = .returned v ∧ Q1_4 Z w1_SOUTH_WEST h0 n0 v U'.heap L ∧ FrameEnd U o U' L ({ frames := 0, cells := 0, slots := 0, locals := 0 } : Room).cells ({ frames := 0, cells := 0, slots := 0, locals := 0 } : Room).slots) := by
  refine MetFree.of_bodySF (plainFor_of_name pn_1) hisR ?_
  intro p e s m args below meth c s₁ Bd hml0 hP hK
  obtain ⟨rfl, hZ, hh⟩ := hP
  have hVV : ∀ (i : Nat) (d : Jvm.Cond), tables_1[i]? = some d → d.before a0 Z = true := fun i d h => hw d (List.mem_of_getElem? h)
  have hx := Bd.exec
  have hby := Bd.bytes
  have hml : c.maxLocals = 1 := hml0
  have hown : s.vm.findClass "com/example/shieldwall/shieldwall/model/DirectionRowFromPinLaw" = some m.cls := findClass_of_methodNamed Bd.named
  have hnm := (name_of_methodNamed Bd.named Bd.method).1
  have X0 : Stand p l e ({ frames := 0, cells := 0, slots := 0, locals := 0 } : Room) s m #[(.int (4 : Int32))] below meth c s₁ [] 0 0 := Stand.of_body Bd
  have e0 : s₁.heap = h0 := by rw [← hh, Bd.state]; rfl
  have N0 := Fr.nil n0
  have pre0 : ∀ t, Steps p.tables e below (s₁.setTop (mkF m 0 #[.val (.int (4 : Int32))] [])) t → Steps p.tables e below (s₁.setTop (entryFrame m #[(.int (4 : Int32))] 1)) t := fun t k => castTop (ef_1_rm1_4 m ) k
  obtain ⟨T1, X1, e1, st1⟩ := getS2 X0 hx hZ hown (host := "") (Or.inl (hVV 28 _ rfl)) Via.refl e0 (S_SOUTH_WEST.ext O0.2) (g := (mkF m 40 #[.val (.int (4 : Int32))] [])) rfl (hb hby d1_40)
  have pre2 : ∀ t, Steps p.tables e below (T1.setTop (mkF m 43 #[.val (.int (4 : Int32))] [(.ref w1_SOUTH_WEST)])) t → Steps p.tables e below (s₁.setTop (entryFrame m #[(.int (4 : Int32))] 1)) t := fun t k => pre0 t (by
    show Steps p.tables e below (s₁.setTop (mkF m 0 #[.val (.int (4 : Int32))] [])) _
    refine XS.iloadN X0.here hx rfl (hb hby d1_0) rfl ?_
    show Steps p.tables e below (s₁.setTop (mkF m 1 #[.val (.int (4 : Int32))] [(.int (4 : Int32))])) _
    refine XS.ifYes X0.here hx rfl (pc0 := 1) (pc' := 8) rfl (hb hby d1_1) rfl ((if0 _ _).trans (feq (by decide : ¬ ((4 : Int32) = (0 : Int32)))).2) (by decide) (by decide) ?_
    show Steps p.tables e below (s₁.setTop (mkF m 8 #[.val (.int (4 : Int32))] [])) _
    refine XS.iloadN X0.here hx rfl (hb hby d1_8) rfl ?_
    show Steps p.tables e below (s₁.setTop (mkF m 9 #[.val (.int (4 : Int32))] [(.int (4 : Int32))])) _
    refine XS.iconst X0.here hx rfl (hb hby d1_9) ?_
    show Steps p.tables e below (s₁.setTop (mkF m 10 #[.val (.int (4 : Int32))] [(.int (1 : Int32)), (.int (4 : Int32))])) _
    refine XS.icmpYes X0.here hx rfl (pc0 := 10) (pc' := 17) rfl (hb hby d1_10) rfl (feq (by decide : ¬ ((4 : Int32) = (1 : Int32)))).2 (by decide) (by decide) ?_
    show Steps p.tables e below (s₁.setTop (mkF m 17 #[.val (.int (4 : Int32))] [])) _
    refine XS.iloadN X0.here hx rfl (hb hby d1_17) rfl ?_
    show Steps p.tables e below (s₁.setTop (mkF m 18 #[.val (.int (4 : Int32))] [(.int (4 : Int32))])) _
    refine XS.iconst X0.here hx rfl (hb hby d1_18) ?_
    show Steps p.tables e below (s₁.setTop (mkF m 19 #[.val (.int (4 : Int32))] [(.int (2 : Int32)), (.int (4 : Int32))])) _
    refine XS.icmpYes X0.here hx rfl (pc0 := 19) (pc' := 26) rfl (hb hby d1_19) rfl (feq (by decide : ¬ ((4 : Int32) = (2 : Int32)))).2 (by decide) (by decide) ?_
    show Steps p.tables e below (s₁.setTop (mkF m 26 #[.val (.int (4 : Int32))] [])) _
    refine XS.iloadN X0.here hx rfl (hb hby d1_26) rfl ?_
    show Steps p.tables e below (s₁.setTop (mkF m 27 #[.val (.int (4 : Int32))] [(.int (4 : Int32))])) _
    refine XS.iconst X0.here hx rfl (hb hby d1_27) ?_
    show Steps p.tables e below (s₁.setTop (mkF m 28 #[.val (.int (4 : Int32))] [(.int (3 : Int32)), (.int (4 : Int32))])) _
    refine XS.icmpYes X0.here hx rfl (pc0 := 28) (pc' := 35) rfl (hb hby d1_28) rfl (feq (by decide : ¬ ((4 : Int32) = (3 : Int32)))).2 (by decide) (by decide) ?_
    show Steps p.tables e below (s₁.setTop (mkF m 35 #[.val (.int (4 : Int32))] [])) _
    refine XS.iloadN X0.here hx rfl (hb hby d1_35) rfl ?_
    show Steps p.tables e below (s₁.setTop (mkF m 36 #[.val (.int (4 : Int32))] [(.int (4 : Int32))])) _
    refine XS.iconst X0.here hx rfl (hb hby d1_36) ?_
    show Steps p.tables e below (s₁.setTop (mkF m 37 #[.val (.int (4 : Int32))] [(.int (4 : Int32)), (.int (4 : Int32))])) _
    refine XS.icmpNo X0.here hx rfl (hb hby d1_37) rfl (teq (by decide : (4 : Int32) = (4 : Int32))).2 ?_
    show Steps p.tables e below (s₁.setTop (mkF m 40 #[.val (.int (4 : Int32))] [])) _
    refine st1 _ ?_
    exact k)
  obtain ⟨fs, hr, hrun, hended, hW, hsame⟩ := X1.leave (v := some (.ref w1_SOUTH_WEST)) (fun h => by rw [Bd.returns] at h; cases h)
  refine ⟨_, _, pre2 _ ?_, hrun, hended, _, _, rfl, ?_, ⟨_, rfl⟩, hW, hsame.mono (by decide) (by decide)⟩
  · show Steps p.tables e below (T1.setTop (mkF m 43 #[.val (.int (4 : Int32))] [(.ref w1_SOUTH_WEST)])) _
    jvm_step X1.here [X1.here.top, hx, (hb hby d1_43), X1.method', Bd.returns, Value.isRef, FieldType.isReference]
    first | (intro acts; rw [hr _ acts rfl rfl rfl]) | rw [hr _ _ rfl rfl rfl]
    exact Steps.refl _
  · show Q1_4 Z w1_SOUTH_WEST h0 n0 _ T1.heap _
    rw [e1]
    exact ⟨rfl, N0, rfl⟩
theorem d1_44 : decode method_2_code 44 = .ok (.getstatic 25, 3) := by decide +kernel
theorem d1_47 : decode method_2_code 47 = .ok (.areturn, 1) := by decide +kernel
theorem ef_1_rm1_5 (m : MethodId)  : entryFrame m #[(.int (5 : Int32))] 1 = mkF m 0 #[.val (.int (5 : Int32))] [] := by first | (simp [entryFrame, mkF, argsToLocals, Value.category]; done) | rfl
def Q1_5 (Z : State) (w1_NORTH_WEST : Addr) (h0 : Heap) (n0 : Nat) (v : Option Value) (h : Heap) (L : List Loc) : Prop := v = some (.ref w1_NORTH_WEST) ∧ Fr n0 L ∧ h = h0
set_option maxRecDepth 65536 in
set_option maxHeartbeats 40000000 in
theorem rm1_5 (l : Launch) (Z : State) (a0 : Array Value) (hw : ∀ d ∈ tables_1, d.before a0 Z = true) (ws : List Jvm.Cond) (w1_NORTH_WEST : Addr) (h0 : Heap) (n0 : Nat) (Z0 : n0 ≤ h0.size) (O0 : Old Z n0 h0) (S_NORTH_WEST : Sta Z Z.heap "com/example/shieldwall/shieldwall/model/Direction" "NORTH_WEST" "Lcom/example/shieldwall/shieldwall/model/Direction;" (.ref w1_NORTH_WEST)) :
    MetFree l (⟨"com/example/shieldwall/shieldwall/model/DirectionRowFromPinLaw", "pick", "(I)Lcom/example/shieldwall/shieldwall/model/Direction;"⟩ : MethodName) (head1 (Jvm.Cond.code (⟨"com/example/shieldwall/shieldwall/model/DirectionRowFromPinLaw", "pick", "(I)Lcom/example/shieldwall/shieldwall/model/Direction;"⟩ : MethodName) method_2_code 1 (some (.object "com/example/shieldwall/shieldwall/model/Direction")) :: ws) ({ frames := 0, cells := 0, slots := 0, locals := 0 } : Room)) (fun a U => a = #[(.int (5 : Int32))] ∧ Z.Warmed39 U.vm ∧ U.heap = h0) (fun _ _ _ _ _ => True) (fun _ U o U' => ∃ v L, o = .returned v ∧ Q1_5 Z w1_NORTH_WEST h0 n0 v U'.heap L ∧ FrameEnd U o U' L ({ frames := 0, cells := 0, slots := 0, locals := 0 } : Room).cells ({ frames := 0, cells := 0, slots := 0, locals := 0 } : Room).slots) := by
  refine MetFree.of_bodySF (plainFor_of_name pn_1) hisR ?_
  intro p e s m args below meth c s₁ Bd hml0 hP hK
  obtain ⟨rfl, hZ, hh⟩ := hP
  have hVV : ∀ (i : Nat) (d : Jvm.Cond), tables_1[i]? = some d → d.before a0 Z = true := fun i d h => hw d (List.mem_of_getElem? h)
  have hx := Bd.exec
  have hby := Bd.bytes
  have hml : c.maxLocals = 1 := hml0
  have hown : s.vm.findClass "com/example/shieldwall/shieldwall/model/DirectionRowFromPinLaw" = some m.cls := findClass_of_methodNamed Bd.named
  have hnm := (name_of_methodNamed Bd.named Bd.method).1
  have X0 : Stand p l e ({ frames := 0, cells := 0, slots := 0, locals := 0 } : Room) s m #[(.int (5 : Int32))] below meth c s₁ [] 0 0 := Stand.of_body Bd
  have e0 : s₁.heap = h0 := by rw [← hh, Bd.state]; rfl
  have N0 := Fr.nil n0
  have pre0 : ∀ t, Steps p.tables e below (s₁.setTop (mkF m 0 #[.val (.int (5 : Int32))] [])) t → Steps p.tables e below (s₁.setTop (entryFrame m #[(.int (5 : Int32))] 1)) t := fun t k => castTop (ef_1_rm1_5 m ) k
  obtain ⟨T1, X1, e1, st1⟩ := getS2 X0 hx hZ hown (host := "") (Or.inl (hVV 24 _ rfl)) Via.refl e0 (S_NORTH_WEST.ext O0.2) (g := (mkF m 44 #[.val (.int (5 : Int32))] [])) rfl (hb hby d1_44)
  have pre2 : ∀ t, Steps p.tables e below (T1.setTop (mkF m 47 #[.val (.int (5 : Int32))] [(.ref w1_NORTH_WEST)])) t → Steps p.tables e below (s₁.setTop (entryFrame m #[(.int (5 : Int32))] 1)) t := fun t k => pre0 t (by
    show Steps p.tables e below (s₁.setTop (mkF m 0 #[.val (.int (5 : Int32))] [])) _
    refine XS.iloadN X0.here hx rfl (hb hby d1_0) rfl ?_
    show Steps p.tables e below (s₁.setTop (mkF m 1 #[.val (.int (5 : Int32))] [(.int (5 : Int32))])) _
    refine XS.ifYes X0.here hx rfl (pc0 := 1) (pc' := 8) rfl (hb hby d1_1) rfl ((if0 _ _).trans (feq (by decide : ¬ ((5 : Int32) = (0 : Int32)))).2) (by decide) (by decide) ?_
    show Steps p.tables e below (s₁.setTop (mkF m 8 #[.val (.int (5 : Int32))] [])) _
    refine XS.iloadN X0.here hx rfl (hb hby d1_8) rfl ?_
    show Steps p.tables e below (s₁.setTop (mkF m 9 #[.val (.int (5 : Int32))] [(.int (5 : Int32))])) _
    refine XS.iconst X0.here hx rfl (hb hby d1_9) ?_
    show Steps p.tables e below (s₁.setTop (mkF m 10 #[.val (.int (5 : Int32))] [(.int (1 : Int32)), (.int (5 : Int32))])) _
    refine XS.icmpYes X0.here hx rfl (pc0 := 10) (pc' := 17) rfl (hb hby d1_10) rfl (feq (by decide : ¬ ((5 : Int32) = (1 : Int32)))).2 (by decide) (by decide) ?_
    show Steps p.tables e below (s₁.setTop (mkF m 17 #[.val (.int (5 : Int32))] [])) _
    refine XS.iloadN X0.here hx rfl (hb hby d1_17) rfl ?_
    show Steps p.tables e below (s₁.setTop (mkF m 18 #[.val (.int (5 : Int32))] [(.int (5 : Int32))])) _
    refine XS.iconst X0.here hx rfl (hb hby d1_18) ?_
    show Steps p.tables e below (s₁.setTop (mkF m 19 #[.val (.int (5 : Int32))] [(.int (2 : Int32)), (.int (5 : Int32))])) _
    refine XS.icmpYes X0.here hx rfl (pc0 := 19) (pc' := 26) rfl (hb hby d1_19) rfl (feq (by decide : ¬ ((5 : Int32) = (2 : Int32)))).2 (by decide) (by decide) ?_
    show Steps p.tables e below (s₁.setTop (mkF m 26 #[.val (.int (5 : Int32))] [])) _
    refine XS.iloadN X0.here hx rfl (hb hby d1_26) rfl ?_
    show Steps p.tables e below (s₁.setTop (mkF m 27 #[.val (.int (5 : Int32))] [(.int (5 : Int32))])) _
    refine XS.iconst X0.here hx rfl (hb hby d1_27) ?_
    show Steps p.tables e below (s₁.setTop (mkF m 28 #[.val (.int (5 : Int32))] [(.int (3 : Int32)), (.int (5 : Int32))])) _
    refine XS.icmpYes X0.here hx rfl (pc0 := 28) (pc' := 35) rfl (hb hby d1_28) rfl (feq (by decide : ¬ ((5 : Int32) = (3 : Int32)))).2 (by decide) (by decide) ?_
    show Steps p.tables e below (s₁.setTop (mkF m 35 #[.val (.int (5 : Int32))] [])) _
    refine XS.iloadN X0.here hx rfl (hb hby d1_35) rfl ?_
    show Steps p.tables e below (s₁.setTop (mkF m 36 #[.val (.int (5 : Int32))] [(.int (5 : Int32))])) _
    refine XS.iconst X0.here hx rfl (hb hby d1_36) ?_
    show Steps p.tables e below (s₁.setTop (mkF m 37 #[.val (.int (5 : Int32))] [(.int (4 : Int32)), (.int (5 : Int32))])) _
    refine XS.icmpYes X0.here hx rfl (pc0 := 37) (pc' := 44) rfl (hb hby d1_37) rfl (feq (by decide : ¬ ((5 : Int32) = (4 : Int32)))).2 (by decide) (by decide) ?_
    show Steps p.tables e below (s₁.setTop (mkF m 44 #[.val (.int (5 : Int32))] [])) _
    refine st1 _ ?_
    exact k)
  obtain ⟨fs, hr, hrun, hended, hW, hsame⟩ := X1.leave (v := some (.ref w1_NORTH_WEST)) (fun h => by rw [Bd.returns] at h; cases h)
  refine ⟨_, _, pre2 _ ?_, hrun, hended, _, _, rfl, ?_, ⟨_, rfl⟩, hW, hsame.mono (by decide) (by decide)⟩
  · show Steps p.tables e below (T1.setTop (mkF m 47 #[.val (.int (5 : Int32))] [(.ref w1_NORTH_WEST)])) _
    jvm_step X1.here [X1.here.top, hx, (hb hby d1_47), X1.method', Bd.returns, Value.isRef, FieldType.isReference]
    first | (intro acts; rw [hr _ acts rfl rfl rfl]) | rw [hr _ _ rfl rfl rfl]
    exact Steps.refl _
  · show Q1_5 Z w1_NORTH_WEST h0 n0 _ T1.heap _
    rw [e1]
    exact ⟨rfl, N0, rfl⟩
theorem d2_0 : decode method_3_code 0 = .ok (.iload_n 0, 1) := by decide +kernel
theorem d2_1 : decode method_3_code 1 = .ok (.ifCond .ne 5, 3) := by decide +kernel
theorem d2_4 : decode method_3_code 4 = .ok (.iconst (-1), 1) := by decide +kernel
theorem d2_5 : decode method_3_code 5 = .ok (.ireturn, 1) := by decide +kernel
theorem pn_2 : plainName "com/example/shieldwall/shieldwall/model/DirectionRowFromPinLaw" = true := by first | (simp [plainName, overriddenIn]; done) | decide +kernel
theorem ef_2_rm2_0 (m : MethodId) (x1 : Int32) : entryFrame m #[(.int (0 : Int32)), (.int x1)] 2 = mkF m 0 #[.val (.int (0 : Int32)), .val (.int x1)] [] := by first | (simp [entryFrame, mkF, argsToLocals, Value.category]; done) | rfl
def Q2_0 (Z : State) (p2_1 : Int32) (h0 : Heap) (n0 : Nat) (v : Option Value) (h : Heap) (L : List Loc) : Prop := v = some (.int (-1 : Int32)) ∧ Fr n0 L ∧ h = h0
set_option maxRecDepth 65536 in
set_option maxHeartbeats 40000000 in
theorem rm2_0 (l : Launch) (Z : State) (a0 : Array Value) (hw : ∀ d ∈ tables_1, d.before a0 Z = true) (ws : List Jvm.Cond) (p2_1 : Int32) (h0 : Heap) (n0 : Nat) (Z0 : n0 ≤ h0.size) :
    MetFree l (⟨"com/example/shieldwall/shieldwall/model/DirectionRowFromPinLaw", "expectedStep", "(IZ)I"⟩ : MethodName) (head1 (Jvm.Cond.code (⟨"com/example/shieldwall/shieldwall/model/DirectionRowFromPinLaw", "expectedStep", "(IZ)I"⟩ : MethodName) method_3_code 2 (some .int) :: ws) ({ frames := 0, cells := 0, slots := 0, locals := 0 } : Room)) (fun a U => a = #[(.int (0 : Int32)), (.int p2_1)] ∧ Z.Warmed39 U.vm ∧ U.heap = h0) (fun _ _ _ _ _ => True) (fun _ U o U' => ∃ v L, o = .returned v ∧ Q2_0 Z p2_1 h0 n0 v U'.heap L ∧ FrameEnd U o U' L ({ frames := 0, cells := 0, slots := 0, locals := 0 } : Room).cells ({ frames := 0, cells := 0, slots := 0, locals := 0 } : Room).slots) := by
  refine MetFree.of_bodySF (plainFor_of_name pn_2) hisR ?_
  intro p e s m args below meth c s₁ Bd hml0 hP hK
  obtain ⟨rfl, hZ, hh⟩ := hP
  have hVV : ∀ (i : Nat) (d : Jvm.Cond), tables_1[i]? = some d → d.before a0 Z = true := fun i d h => hw d (List.mem_of_getElem? h)
  have hx := Bd.exec
  have hby := Bd.bytes
  have hml : c.maxLocals = 2 := hml0
  have hown : s.vm.findClass "com/example/shieldwall/shieldwall/model/DirectionRowFromPinLaw" = some m.cls := findClass_of_methodNamed Bd.named
  have hnm := (name_of_methodNamed Bd.named Bd.method).1
  have X0 : Stand p l e ({ frames := 0, cells := 0, slots := 0, locals := 0 } : Room) s m #[(.int (0 : Int32)), (.int p2_1)] below meth c s₁ [] 0 0 := Stand.of_body Bd
  have e0 : s₁.heap = h0 := by rw [← hh, Bd.state]; rfl
  have N0 := Fr.nil n0
  have pre0 : ∀ t, Steps p.tables e below (s₁.setTop (mkF m 0 #[.val (.int (0 : Int32)), .val (.int p2_1)] [])) t → Steps p.tables e below (s₁.setTop (entryFrame m #[(.int (0 : Int32)), (.int p2_1)] 2)) t := fun t k => castTop (ef_2_rm2_0 m p2_1) k
  obtain ⟨fs, hr, hrun, hended, hW, hsame⟩ := X0.leave (v := some (.int (-1 : Int32))) (fun h => by rw [Bd.returns] at h; cases h)
  refine ⟨_, _, pre0 _ ?_, hrun, hended, _, _, rfl, ?_, ⟨_, rfl⟩, hW, hsame.mono (by decide) (by decide)⟩
  · show Steps p.tables e below (s₁.setTop (mkF m 0 #[.val (.int (0 : Int32)), .val (.int p2_1)] [])) _
    refine XS.iloadN X0.here hx rfl (hb hby d2_0) rfl ?_
    show Steps p.tables e below (s₁.setTop (mkF m 1 #[.val (.int (0 : Int32)), .val (.int p2_1)] [(.int (0 : Int32))])) _
    refine XS.ifNo X0.here hx rfl (hb hby d2_1) rfl ((if0 _ _).trans (teq (by decide : (0 : Int32) = (0 : Int32))).2) ?_
    show Steps p.tables e below (s₁.setTop (mkF m 4 #[.val (.int (0 : Int32)), .val (.int p2_1)] [])) _
    refine XS.iconst X0.here hx rfl (hb hby d2_4) ?_
    show Steps p.tables e below (s₁.setTop (mkF m 5 #[.val (.int (0 : Int32)), .val (.int p2_1)] [(.int (-1 : Int32))])) _
    exact retI X0 hx Bd.returns (hb hby d2_5) hr
  · show Q2_0 Z p2_1 h0 n0 _ s₁.heap _
    rw [e0]
    exact ⟨rfl, N0, rfl⟩
theorem d2_6 : decode method_3_code 6 = .ok (.iload_n 0, 1) := by decide +kernel
theorem d2_7 : decode method_3_code 7 = .ok (.iconst 3, 1) := by decide +kernel
theorem d2_8 : decode method_3_code 8 = .ok (.if_icmp .ne 5, 3) := by decide +kernel
theorem d2_13 : decode method_3_code 13 = .ok (.iload_n 0, 1) := by decide +kernel
theorem d2_14 : decode method_3_code 14 = .ok (.iconst 1, 1) := by decide +kernel
theorem d2_15 : decode method_3_code 15 = .ok (.if_icmp .eq 8, 3) := by decide +kernel
theorem d2_23 : decode method_3_code 23 = .ok (.iload_n 1, 1) := by decide +kernel
theorem d2_24 : decode method_3_code 24 = .ok (.ifCond .eq 7, 3) := by decide +kernel
theorem d2_27 : decode method_3_code 27 = .ok (.iconst 0, 1) := by decide +kernel
theorem d2_28 : decode method_3_code 28 = .ok (.goto 4, 3) := by decide +kernel
theorem d2_31 : decode method_3_code 31 = .ok (.iconst (-1), 1) := by decide +kernel
theorem d2_32 : decode method_3_code 32 = .ok (.ireturn, 1) := by decide +kernel
theorem ef_2_rm2_1 (m : MethodId) (x1 : Int32) : entryFrame m #[(.int (1 : Int32)), (.int x1)] 2 = mkF m 0 #[.val (.int (1 : Int32)), .val (.int x1)] [] := by first | (simp [entryFrame, mkF, argsToLocals, Value.category]; done) | rfl
def Q2_1 (Z : State) (p2_1 : Int32) (h0 : Heap) (n0 : Nat) (v : Option Value) (h : Heap) (L : List Loc) : Prop := v = some (.int (if p2_1 = (0 : Int32) then (-1 : Int32) else (0 : Int32))) ∧ Fr n0 L ∧ h = h0
set_option maxRecDepth 65536 in
set_option maxHeartbeats 40000000 in
theorem rm2_1 (l : Launch) (Z : State) (a0 : Array Value) (hw : ∀ d ∈ tables_1, d.before a0 Z = true) (ws : List Jvm.Cond) (p2_1 : Int32) (h0 : Heap) (n0 : Nat) (Z0 : n0 ≤ h0.size) :
    MetFree l (⟨"com/example/shieldwall/shieldwall/model/DirectionRowFromPinLaw", "expectedStep", "(IZ)I"⟩ : MethodName) (head1 (Jvm.Cond.code (⟨"com/example/shieldwall/shieldwall/model/DirectionRowFromPinLaw", "expectedStep", "(IZ)I"⟩ : MethodName) method_3_code 2 (some .int) :: ws) ({ frames := 0, cells := 0, slots := 0, locals := 0 } : Room)) (fun a U => a = #[(.int (1 : Int32)), (.int p2_1)] ∧ Z.Warmed39 U.vm ∧ U.heap = h0) (fun _ _ _ _ _ => True) (fun _ U o U' => ∃ v L, o = .returned v ∧ Q2_1 Z p2_1 h0 n0 v U'.heap L ∧ FrameEnd U o U' L ({ frames := 0, cells := 0, slots := 0, locals := 0 } : Room).cells ({ frames := 0, cells := 0, slots := 0, locals := 0 } : Room).slots) := by
  refine MetFree.of_bodySF (plainFor_of_name pn_2) hisR ?_
  intro p e s m args below meth c s₁ Bd hml0 hP hK
  obtain ⟨rfl, hZ, hh⟩ := hP
  have hVV : ∀ (i : Nat) (d : Jvm.Cond), tables_1[i]? = some d → d.before a0 Z = true := fun i d h => hw d (List.mem_of_getElem? h)
  have hx := Bd.exec
  have hby := Bd.bytes
  have hml : c.maxLocals = 2 := hml0
  have hown : s.vm.findClass "com/example/shieldwall/shieldwall/model/DirectionRowFromPinLaw" = some m.cls := findClass_of_methodNamed Bd.named
  have hnm := (name_of_methodNamed Bd.named Bd.method).1
  have X0 : Stand p l e ({ frames := 0, cells := 0, slots := 0, locals := 0 } : Room) s m #[(.int (1 : Int32)), (.int p2_1)] below meth c s₁ [] 0 0 := Stand.of_body Bd
  have e0 : s₁.heap = h0 := by rw [← hh, Bd.state]; rfl
  have N0 := Fr.nil n0
  have pre0 : ∀ t, Steps p.tables e below (s₁.setTop (mkF m 0 #[.val (.int (1 : Int32)), .val (.int p2_1)] [])) t → Steps p.tables e below (s₁.setTop (entryFrame m #[(.int (1 : Int32)), (.int p2_1)] 2)) t := fun t k => castTop (ef_2_rm2_1 m p2_1) k
  have pre2 : ∀ t, Steps p.tables e below (s₁.setTop (mkF m 24 #[.val (.int (1 : Int32)), .val (.int p2_1)] [(.int p2_1)])) t → Steps p.tables e below (s₁.setTop (entryFrame m #[(.int (1 : Int32)), (.int p2_1)] 2)) t := fun t k => pre0 t (by
    show Steps p.tables e below (s₁.setTop (mkF m 0 #[.val (.int (1 : Int32)), .val (.int p2_1)] [])) _
    refine XS.iloadN X0.here hx rfl (hb hby d2_0) rfl ?_
    show Steps p.tables e below (s₁.setTop (mkF m 1 #[.val (.int (1 : Int32)), .val (.int p2_1)] [(.int (1 : Int32))])) _
    refine XS.ifYes X0.here hx rfl (pc0 := 1) (pc' := 6) rfl (hb hby d2_1) rfl ((if0 _ _).trans (feq (by decide : ¬ ((1 : Int32) = (0 : Int32)))).2) (by decide) (by decide) ?_
    show Steps p.tables e below (s₁.setTop (mkF m 6 #[.val (.int (1 : Int32)), .val (.int p2_1)] [])) _
    refine XS.iloadN X0.here hx rfl (hb hby d2_6) rfl ?_
    show Steps p.tables e below (s₁.setTop (mkF m 7 #[.val (.int (1 : Int32)), .val (.int p2_1)] [(.int (1 : Int32))])) _
    refine XS.iconst X0.here hx rfl (hb hby d2_7) ?_
    show Steps p.tables e below (s₁.setTop (mkF m 8 #[.val (.int (1 : Int32)), .val (.int p2_1)] [(.int (3 : Int32)), (.int (1 : Int32))])) _
    refine XS.icmpYes X0.here hx rfl (pc0 := 8) (pc' := 13) rfl (hb hby d2_8) rfl (feq (by decide : ¬ ((1 : Int32) = (3 : Int32)))).2 (by decide) (by decide) ?_
    show Steps p.tables e below (s₁.setTop (mkF m 13 #[.val (.int (1 : Int32)), .val (.int p2_1)] [])) _
    refine XS.iloadN X0.here hx rfl (hb hby d2_13) rfl ?_
    show Steps p.tables e below (s₁.setTop (mkF m 14 #[.val (.int (1 : Int32)), .val (.int p2_1)] [(.int (1 : Int32))])) _
    refine XS.iconst X0.here hx rfl (hb hby d2_14) ?_
    show Steps p.tables e below (s₁.setTop (mkF m 15 #[.val (.int (1 : Int32)), .val (.int p2_1)] [(.int (1 : Int32)), (.int (1 : Int32))])) _
    refine XS.icmpYes X0.here hx rfl (pc0 := 15) (pc' := 23) rfl (hb hby d2_15) rfl (teq (by decide : (1 : Int32) = (1 : Int32))).1 (by decide) (by decide) ?_
    show Steps p.tables e below (s₁.setTop (mkF m 23 #[.val (.int (1 : Int32)), .val (.int p2_1)] [])) _
    refine XS.iloadN X0.here hx rfl (hb hby d2_23) rfl ?_
    exact k)
  have pre3 : ∀ t, Steps p.tables e below (s₁.setTop (mkF m 32 #[.val (.int (1 : Int32)), .val (.int p2_1)] [(.int (if p2_1 = (0 : Int32) then (-1 : Int32) else (0 : Int32)))])) t → Steps p.tables e below (s₁.setTop (entryFrame m #[(.int (1 : Int32)), (.int p2_1)] 2)) t := fun t k => pre2 t (by
    by_cases hc1 : p2_1 = (0 : Int32)
    · show Steps p.tables e below (s₁.setTop (mkF m 24 #[.val (.int (1 : Int32)), .val (.int p2_1)] [(.int p2_1)])) _
      refine XS.ifYes X0.here hx rfl (pc0 := 24) (pc' := 31) rfl (hb hby d2_24) rfl ((if0 _ _).trans (teq hc1).1) (by decide) (by decide) ?_
      show Steps p.tables e below (s₁.setTop (mkF m 31 #[.val (.int (1 : Int32)), .val (.int p2_1)] [])) _
      refine XS.iconst X0.here hx rfl (hb hby d2_31) ?_
      have q4 : (if p2_1 = (0 : Int32) then (-1 : Int32) else (0 : Int32)) = (-1 : Int32) := (if_pos hc1)
      exact castTop (g := (mkF m 32 #[.val (.int (1 : Int32)), .val (.int p2_1)] [(.int (-1 : Int32))])) (g' := (mkF m 32 #[.val (.int (1 : Int32)), .val (.int p2_1)] [(.int (if p2_1 = (0 : Int32) then (-1 : Int32) else (0 : Int32)))])) (by simp only [q4]) k
    · show Steps p.tables e below (s₁.setTop (mkF m 24 #[.val (.int (1 : Int32)), .val (.int p2_1)] [(.int p2_1)])) _
      refine XS.ifNo X0.here hx rfl (hb hby d2_24) rfl ((if0 _ _).trans (feq hc1).1) ?_
      show Steps p.tables e below (s₁.setTop (mkF m 27 #[.val (.int (1 : Int32)), .val (.int p2_1)] [])) _
      refine XS.iconst X0.here hx rfl (hb hby d2_27) ?_
      show Steps p.tables e below (s₁.setTop (mkF m 28 #[.val (.int (1 : Int32)), .val (.int p2_1)] [(.int (0 : Int32))])) _
      refine XS.goto X0.here hx rfl (pc0 := 28) (pc' := 32) rfl (hb hby d2_28) (by decide) (by decide) ?_
      have q5 : (if p2_1 = (0 : Int32) then (-1 : Int32) else (0 : Int32)) = (0 : Int32) := (if_neg hc1)
      exact castTop (g := (mkF m 32 #[.val (.int (1 : Int32)), .val (.int p2_1)] [(.int (0 : Int32))])) (g' := (mkF m 32 #[.val (.int (1 : Int32)), .val (.int p2_1)] [(.int (if p2_1 = (0 : Int32) then (-1 : Int32) else (0 : Int32)))])) (by simp only [q5]) k)
  obtain ⟨fs, hr, hrun, hended, hW, hsame⟩ := X0.leave (v := some (.int (if p2_1 = (0 : Int32) then (-1 : Int32) else (0 : Int32)))) (fun h => by rw [Bd.returns] at h; cases h)
  refine ⟨_, _, pre3 _ ?_, hrun, hended, _, _, rfl, ?_, ⟨_, rfl⟩, hW, hsame.mono (by decide) (by decide)⟩
  · show Steps p.tables e below (s₁.setTop (mkF m 32 #[.val (.int (1 : Int32)), .val (.int p2_1)] [(.int (if p2_1 = (0 : Int32) then (-1 : Int32) else (0 : Int32)))])) _
    exact retI X0 hx Bd.returns (hb hby d2_32) hr
  · show Q2_1 Z p2_1 h0 n0 _ s₁.heap _
    rw [e0]
    exact ⟨rfl, N0, rfl⟩
theorem d2_18 : decode method_3_code 18 = .ok (.iload_n 0, 1) := by decide +kernel
theorem d2_19 : decode method_3_code 19 = .ok (.iconst 5, 1) := by decide +kernel
theorem d2_20 : decode method_3_code 20 = .ok (.if_icmp .ne 13, 3) := by decide +kernel
theorem d2_33 : decode method_3_code 33 = .ok (.iload_n 1, 1) := by decide +kernel
theorem d2_34 : decode method_3_code 34 = .ok (.ifCond .eq 7, 3) := by decide +kernel
theorem d2_37 : decode method_3_code 37 = .ok (.iconst 1, 1) := by decide +kernel
theorem d2_38 : decode method_3_code 38 = .ok (.goto 4, 3) := by decide +kernel
theorem d2_41 : decode method_3_code 41 = .ok (.iconst 0, 1) := by decide +kernel
theorem d2_42 : decode method_3_code 42 = .ok (.ireturn, 1) := by decide +kernel
theorem ef_2_rm2_2 (m : MethodId) (x1 : Int32) : entryFrame m #[(.int (2 : Int32)), (.int x1)] 2 = mkF m 0 #[.val (.int (2 : Int32)), .val (.int x1)] [] := by first | (simp [entryFrame, mkF, argsToLocals, Value.category]; done) | rfl
def Q2_2 (Z : State) (p2_1 : Int32) (h0 : Heap) (n0 : Nat) (v : Option Value) (h : Heap) (L : List Loc) : Prop := v = some (.int (bI (¬ (p2_1 = (0 : Int32))))) ∧ Fr n0 L ∧ h = h0
set_option maxRecDepth 65536 in
set_option maxHeartbeats 40000000 in
theorem rm2_2 (l : Launch) (Z : State) (a0 : Array Value) (hw : ∀ d ∈ tables_1, d.before a0 Z = true) (ws : List Jvm.Cond) (p2_1 : Int32) (h0 : Heap) (n0 : Nat) (Z0 : n0 ≤ h0.size) :
    MetFree l (⟨"com/example/shieldwall/shieldwall/model/DirectionRowFromPinLaw", "expectedStep", "(IZ)I"⟩ : MethodName) (head1 (Jvm.Cond.code (⟨"com/example/shieldwall/shieldwall/model/DirectionRowFromPinLaw", "expectedStep", "(IZ)I"⟩ : MethodName) method_3_code 2 (some .int) :: ws) ({ frames := 0, cells := 0, slots := 0, locals := 0 } : Room)) (fun a U => a = #[(.int (2 : Int32)), (.int p2_1)] ∧ Z.Warmed39 U.vm ∧ U.heap = h0) (fun _ _ _ _ _ => True) (fun _ U o U' => ∃ v L, o = .returned v ∧ Q2_2 Z p2_1 h0 n0 v U'.heap L ∧ FrameEnd U o U' L ({ frames := 0, cells := 0, slots := 0, locals := 0 } : Room).cells ({ frames := 0, cells := 0, slots := 0, locals := 0 } : Room).slots) := by
  refine MetFree.of_bodySF (plainFor_of_name pn_2) hisR ?_
  intro p e s m args below meth c s₁ Bd hml0 hP hK
  obtain ⟨rfl, hZ, hh⟩ := hP
  have hVV : ∀ (i : Nat) (d : Jvm.Cond), tables_1[i]? = some d → d.before a0 Z = true := fun i d h => hw d (List.mem_of_getElem? h)
  have hx := Bd.exec
  have hby := Bd.bytes
  have hml : c.maxLocals = 2 := hml0
  have hown : s.vm.findClass "com/example/shieldwall/shieldwall/model/DirectionRowFromPinLaw" = some m.cls := findClass_of_methodNamed Bd.named
  have hnm := (name_of_methodNamed Bd.named Bd.method).1
  have X0 : Stand p l e ({ frames := 0, cells := 0, slots := 0, locals := 0 } : Room) s m #[(.int (2 : Int32)), (.int p2_1)] below meth c s₁ [] 0 0 := Stand.of_body Bd
  have e0 : s₁.heap = h0 := by rw [← hh, Bd.state]; rfl
  have N0 := Fr.nil n0
  have pre0 : ∀ t, Steps p.tables e below (s₁.setTop (mkF m 0 #[.val (.int (2 : Int32)), .val (.int p2_1)] [])) t → Steps p.tables e below (s₁.setTop (entryFrame m #[(.int (2 : Int32)), (.int p2_1)] 2)) t := fun t k => castTop (ef_2_rm2_2 m p2_1) k
  have pre2 : ∀ t, Steps p.tables e below (s₁.setTop (mkF m 34 #[.val (.int (2 : Int32)), .val (.int p2_1)] [(.int p2_1)])) t → Steps p.tables e below (s₁.setTop (entryFrame m #[(.int (2 : Int32)), (.int p2_1)] 2)) t := fun t k => pre0 t (by
    show Steps p.tables e below (s₁.setTop (mkF m 0 #[.val (.int (2 : Int32)), .val (.int p2_1)] [])) _
    refine XS.iloadN X0.here hx rfl (hb hby d2_0) rfl ?_
    show Steps p.tables e below (s₁.setTop (mkF m 1 #[.val (.int (2 : Int32)), .val (.int p2_1)] [(.int (2 : Int32))])) _
    refine XS.ifYes X0.here hx rfl (pc0 := 1) (pc' := 6) rfl (hb hby d2_1) rfl ((if0 _ _).trans (feq (by decide : ¬ ((2 : Int32) = (0 : Int32)))).2) (by decide) (by decide) ?_
    show Steps p.tables e below (s₁.setTop (mkF m 6 #[.val (.int (2 : Int32)), .val (.int p2_1)] [])) _
    refine XS.iloadN X0.here hx rfl (hb hby d2_6) rfl ?_
    show Steps p.tables e below (s₁.setTop (mkF m 7 #[.val (.int (2 : Int32)), .val (.int p2_1)] [(.int (2 : Int32))])) _
    refine XS.iconst X0.here hx rfl (hb hby d2_7) ?_
    show Steps p.tables e below (s₁.setTop (mkF m 8 #[.val (.int (2 : Int32)), .val (.int p2_1)] [(.int (3 : Int32)), (.int (2 : Int32))])) _
    refine XS.icmpYes X0.here hx rfl (pc0 := 8) (pc' := 13) rfl (hb hby d2_8) rfl (feq (by decide : ¬ ((2 : Int32) = (3 : Int32)))).2 (by decide) (by decide) ?_
    show Steps p.tables e below (s₁.setTop (mkF m 13 #[.val (.int (2 : Int32)), .val (.int p2_1)] [])) _
    refine XS.iloadN X0.here hx rfl (hb hby d2_13) rfl ?_
    show Steps p.tables e below (s₁.setTop (mkF m 14 #[.val (.int (2 : Int32)), .val (.int p2_1)] [(.int (2 : Int32))])) _
    refine XS.iconst X0.here hx rfl (hb hby d2_14) ?_
    show Steps p.tables e below (s₁.setTop (mkF m 15 #[.val (.int (2 : Int32)), .val (.int p2_1)] [(.int (1 : Int32)), (.int (2 : Int32))])) _
    refine XS.icmpNo X0.here hx rfl (hb hby d2_15) rfl (feq (by decide : ¬ ((2 : Int32) = (1 : Int32)))).1 ?_
    show Steps p.tables e below (s₁.setTop (mkF m 18 #[.val (.int (2 : Int32)), .val (.int p2_1)] [])) _
    refine XS.iloadN X0.here hx rfl (hb hby d2_18) rfl ?_
    show Steps p.tables e below (s₁.setTop (mkF m 19 #[.val (.int (2 : Int32)), .val (.int p2_1)] [(.int (2 : Int32))])) _
    refine XS.iconst X0.here hx rfl (hb hby d2_19) ?_
    show Steps p.tables e below (s₁.setTop (mkF m 20 #[.val (.int (2 : Int32)), .val (.int p2_1)] [(.int (5 : Int32)), (.int (2 : Int32))])) _
    refine XS.icmpYes X0.here hx rfl (pc0 := 20) (pc' := 33) rfl (hb hby d2_20) rfl (feq (by decide : ¬ ((2 : Int32) = (5 : Int32)))).2 (by decide) (by decide) ?_
    show Steps p.tables e below (s₁.setTop (mkF m 33 #[.val (.int (2 : Int32)), .val (.int p2_1)] [])) _
    refine XS.iloadN X0.here hx rfl (hb hby d2_33) rfl ?_
    exact k)
  have pre3 : ∀ t, Steps p.tables e below (s₁.setTop (mkF m 42 #[.val (.int (2 : Int32)), .val (.int p2_1)] [(.int (bI (¬ (p2_1 = (0 : Int32)))))])) t → Steps p.tables e below (s₁.setTop (entryFrame m #[(.int (2 : Int32)), (.int p2_1)] 2)) t := fun t k => pre2 t (by
    by_cases hc1 : p2_1 = (0 : Int32)
    · show Steps p.tables e below (s₁.setTop (mkF m 34 #[.val (.int (2 : Int32)), .val (.int p2_1)] [(.int p2_1)])) _
      refine XS.ifYes X0.here hx rfl (pc0 := 34) (pc' := 41) rfl (hb hby d2_34) rfl ((if0 _ _).trans (teq hc1).1) (by decide) (by decide) ?_
      show Steps p.tables e below (s₁.setTop (mkF m 41 #[.val (.int (2 : Int32)), .val (.int p2_1)] [])) _
      refine XS.iconst X0.here hx rfl (hb hby d2_41) ?_
      have q4 : (bI (¬ (p2_1 = (0 : Int32)))) = (0 : Int32) := (bI_f (fun q => q hc1))
      exact castTop (g := (mkF m 42 #[.val (.int (2 : Int32)), .val (.int p2_1)] [(.int (0 : Int32))])) (g' := (mkF m 42 #[.val (.int (2 : Int32)), .val (.int p2_1)] [(.int (bI (¬ (p2_1 = (0 : Int32)))))])) (by simp only [q4]) k
    · show Steps p.tables e below (s₁.setTop (mkF m 34 #[.val (.int (2 : Int32)), .val (.int p2_1)] [(.int p2_1)])) _
      refine XS.ifNo X0.here hx rfl (hb hby d2_34) rfl ((if0 _ _).trans (feq hc1).1) ?_
      show Steps p.tables e below (s₁.setTop (mkF m 37 #[.val (.int (2 : Int32)), .val (.int p2_1)] [])) _
      refine XS.iconst X0.here hx rfl (hb hby d2_37) ?_
      show Steps p.tables e below (s₁.setTop (mkF m 38 #[.val (.int (2 : Int32)), .val (.int p2_1)] [(.int (1 : Int32))])) _
      refine XS.goto X0.here hx rfl (pc0 := 38) (pc' := 42) rfl (hb hby d2_38) (by decide) (by decide) ?_
      have q5 : (bI (¬ (p2_1 = (0 : Int32)))) = (1 : Int32) := (bI_t hc1)
      exact castTop (g := (mkF m 42 #[.val (.int (2 : Int32)), .val (.int p2_1)] [(.int (1 : Int32))])) (g' := (mkF m 42 #[.val (.int (2 : Int32)), .val (.int p2_1)] [(.int (bI (¬ (p2_1 = (0 : Int32)))))])) (by simp only [q5]) k)
  obtain ⟨fs, hr, hrun, hended, hW, hsame⟩ := X0.leave (v := some (.int (bI (¬ (p2_1 = (0 : Int32)))))) (fun h => by rw [Bd.returns] at h; cases h)
  refine ⟨_, _, pre3 _ ?_, hrun, hended, _, _, rfl, ?_, ⟨_, rfl⟩, hW, hsame.mono (by decide) (by decide)⟩
  · show Steps p.tables e below (s₁.setTop (mkF m 42 #[.val (.int (2 : Int32)), .val (.int p2_1)] [(.int (bI (¬ (p2_1 = (0 : Int32)))))])) _
    exact retI X0 hx Bd.returns (hb hby d2_42) hr
  · show Q2_2 Z p2_1 h0 n0 _ s₁.heap _
    rw [e0]
    exact ⟨rfl, N0, rfl⟩
theorem d2_11 : decode method_3_code 11 = .ok (.iconst 1, 1) := by decide +kernel
theorem d2_12 : decode method_3_code 12 = .ok (.ireturn, 1) := by decide +kernel
theorem ef_2_rm2_3 (m : MethodId) (x1 : Int32) : entryFrame m #[(.int (3 : Int32)), (.int x1)] 2 = mkF m 0 #[.val (.int (3 : Int32)), .val (.int x1)] [] := by first | (simp [entryFrame, mkF, argsToLocals, Value.category]; done) | rfl
def Q2_3 (Z : State) (p2_1 : Int32) (h0 : Heap) (n0 : Nat) (v : Option Value) (h : Heap) (L : List Loc) : Prop := v = some (.int (1 : Int32)) ∧ Fr n0 L ∧ h = h0
set_option maxRecDepth 65536 in
set_option maxHeartbeats 40000000 in
theorem rm2_3 (l : Launch) (Z : State) (a0 : Array Value) (hw : ∀ d ∈ tables_1, d.before a0 Z = true) (ws : List Jvm.Cond) (p2_1 : Int32) (h0 : Heap) (n0 : Nat) (Z0 : n0 ≤ h0.size) :
    MetFree l (⟨"com/example/shieldwall/shieldwall/model/DirectionRowFromPinLaw", "expectedStep", "(IZ)I"⟩ : MethodName) (head1 (Jvm.Cond.code (⟨"com/example/shieldwall/shieldwall/model/DirectionRowFromPinLaw", "expectedStep", "(IZ)I"⟩ : MethodName) method_3_code 2 (some .int) :: ws) ({ frames := 0, cells := 0, slots := 0, locals := 0 } : Room)) (fun a U => a = #[(.int (3 : Int32)), (.int p2_1)] ∧ Z.Warmed39 U.vm ∧ U.heap = h0) (fun _ _ _ _ _ => True) (fun _ U o U' => ∃ v L, o = .returned v ∧ Q2_3 Z p2_1 h0 n0 v U'.heap L ∧ FrameEnd U o U' L ({ frames := 0, cells := 0, slots := 0, locals := 0 } : Room).cells ({ frames := 0, cells := 0, slots := 0, locals := 0 } : Room).slots) := by
  refine MetFree.of_bodySF (plainFor_of_name pn_2) hisR ?_
  intro p e s m args below meth c s₁ Bd hml0 hP hK
  obtain ⟨rfl, hZ, hh⟩ := hP
  have hVV : ∀ (i : Nat) (d : Jvm.Cond), tables_1[i]? = some d → d.before a0 Z = true := fun i d h => hw d (List.mem_of_getElem? h)
  have hx := Bd.exec
  have hby := Bd.bytes
  have hml : c.maxLocals = 2 := hml0
  have hown : s.vm.findClass "com/example/shieldwall/shieldwall/model/DirectionRowFromPinLaw" = some m.cls := findClass_of_methodNamed Bd.named
  have hnm := (name_of_methodNamed Bd.named Bd.method).1
  have X0 : Stand p l e ({ frames := 0, cells := 0, slots := 0, locals := 0 } : Room) s m #[(.int (3 : Int32)), (.int p2_1)] below meth c s₁ [] 0 0 := Stand.of_body Bd
  have e0 : s₁.heap = h0 := by rw [← hh, Bd.state]; rfl
  have N0 := Fr.nil n0
  have pre0 : ∀ t, Steps p.tables e below (s₁.setTop (mkF m 0 #[.val (.int (3 : Int32)), .val (.int p2_1)] [])) t → Steps p.tables e below (s₁.setTop (entryFrame m #[(.int (3 : Int32)), (.int p2_1)] 2)) t := fun t k => castTop (ef_2_rm2_3 m p2_1) k
  obtain ⟨fs, hr, hrun, hended, hW, hsame⟩ := X0.leave (v := some (.int (1 : Int32))) (fun h => by rw [Bd.returns] at h; cases h)
  refine ⟨_, _, pre0 _ ?_, hrun, hended, _, _, rfl, ?_, ⟨_, rfl⟩, hW, hsame.mono (by decide) (by decide)⟩
  · show Steps p.tables e below (s₁.setTop (mkF m 0 #[.val (.int (3 : Int32)), .val (.int p2_1)] [])) _
    refine XS.iloadN X0.here hx rfl (hb hby d2_0) rfl ?_
    show Steps p.tables e below (s₁.setTop (mkF m 1 #[.val (.int (3 : Int32)), .val (.int p2_1)] [(.int (3 : Int32))])) _
    refine XS.ifYes X0.here hx rfl (pc0 := 1) (pc' := 6) rfl (hb hby d2_1) rfl ((if0 _ _).trans (feq (by decide : ¬ ((3 : Int32) = (0 : Int32)))).2) (by decide) (by decide) ?_
    show Steps p.tables e below (s₁.setTop (mkF m 6 #[.val (.int (3 : Int32)), .val (.int p2_1)] [])) _
    refine XS.iloadN X0.here hx rfl (hb hby d2_6) rfl ?_
    show Steps p.tables e below (s₁.setTop (mkF m 7 #[.val (.int (3 : Int32)), .val (.int p2_1)] [(.int (3 : Int32))])) _
    refine XS.iconst X0.here hx rfl (hb hby d2_7) ?_
    show Steps p.tables e below (s₁.setTop (mkF m 8 #[.val (.int (3 : Int32)), .val (.int p2_1)] [(.int (3 : Int32)), (.int (3 : Int32))])) _
    refine XS.icmpNo X0.here hx rfl (hb hby d2_8) rfl (teq (by decide : (3 : Int32) = (3 : Int32))).2 ?_
    show Steps p.tables e below (s₁.setTop (mkF m 11 #[.val (.int (3 : Int32)), .val (.int p2_1)] [])) _
    refine XS.iconst X0.here hx rfl (hb hby d2_11) ?_
    show Steps p.tables e below (s₁.setTop (mkF m 12 #[.val (.int (3 : Int32)), .val (.int p2_1)] [(.int (1 : Int32))])) _
    exact retI X0 hx Bd.returns (hb hby d2_12) hr
  · show Q2_3 Z p2_1 h0 n0 _ s₁.heap _
    rw [e0]
    exact ⟨rfl, N0, rfl⟩
theorem ef_2_rm2_4 (m : MethodId) (x1 : Int32) : entryFrame m #[(.int (4 : Int32)), (.int x1)] 2 = mkF m 0 #[.val (.int (4 : Int32)), .val (.int x1)] [] := by first | (simp [entryFrame, mkF, argsToLocals, Value.category]; done) | rfl
def Q2_4 (Z : State) (p2_1 : Int32) (h0 : Heap) (n0 : Nat) (v : Option Value) (h : Heap) (L : List Loc) : Prop := v = some (.int (bI (¬ (p2_1 = (0 : Int32))))) ∧ Fr n0 L ∧ h = h0
set_option maxRecDepth 65536 in
set_option maxHeartbeats 40000000 in
theorem rm2_4 (l : Launch) (Z : State) (a0 : Array Value) (hw : ∀ d ∈ tables_1, d.before a0 Z = true) (ws : List Jvm.Cond) (p2_1 : Int32) (h0 : Heap) (n0 : Nat) (Z0 : n0 ≤ h0.size) :
    MetFree l (⟨"com/example/shieldwall/shieldwall/model/DirectionRowFromPinLaw", "expectedStep", "(IZ)I"⟩ : MethodName) (head1 (Jvm.Cond.code (⟨"com/example/shieldwall/shieldwall/model/DirectionRowFromPinLaw", "expectedStep", "(IZ)I"⟩ : MethodName) method_3_code 2 (some .int) :: ws) ({ frames := 0, cells := 0, slots := 0, locals := 0 } : Room)) (fun a U => a = #[(.int (4 : Int32)), (.int p2_1)] ∧ Z.Warmed39 U.vm ∧ U.heap = h0) (fun _ _ _ _ _ => True) (fun _ U o U' => ∃ v L, o = .returned v ∧ Q2_4 Z p2_1 h0 n0 v U'.heap L ∧ FrameEnd U o U' L ({ frames := 0, cells := 0, slots := 0, locals := 0 } : Room).cells ({ frames := 0, cells := 0, slots := 0, locals := 0 } : Room).slots) := by
  refine MetFree.of_bodySF (plainFor_of_name pn_2) hisR ?_
  intro p e s m args below meth c s₁ Bd hml0 hP hK
  obtain ⟨rfl, hZ, hh⟩ := hP
  have hVV : ∀ (i : Nat) (d : Jvm.Cond), tables_1[i]? = some d → d.before a0 Z = true := fun i d h => hw d (List.mem_of_getElem? h)
  have hx := Bd.exec
  have hby := Bd.bytes
  have hml : c.maxLocals = 2 := hml0
  have hown : s.vm.findClass "com/example/shieldwall/shieldwall/model/DirectionRowFromPinLaw" = some m.cls := findClass_of_methodNamed Bd.named
  have hnm := (name_of_methodNamed Bd.named Bd.method).1
  have X0 : Stand p l e ({ frames := 0, cells := 0, slots := 0, locals := 0 } : Room) s m #[(.int (4 : Int32)), (.int p2_1)] below meth c s₁ [] 0 0 := Stand.of_body Bd
  have e0 : s₁.heap = h0 := by rw [← hh, Bd.state]; rfl
  have N0 := Fr.nil n0
  have pre0 : ∀ t, Steps p.tables e below (s₁.setTop (mkF m 0 #[.val (.int (4 : Int32)), .val (.int p2_1)] [])) t → Steps p.tables e below (s₁.setTop (entryFrame m #[(.int (4 : Int32)), (.int p2_1)] 2)) t := fun t k => castTop (ef_2_rm2_4 m p2_1) k
  have pre2 : ∀ t, Steps p.tables e below (s₁.setTop (mkF m 34 #[.val (.int (4 : Int32)), .val (.int p2_1)] [(.int p2_1)])) t → Steps p.tables e below (s₁.setTop (entryFrame m #[(.int (4 : Int32)), (.int p2_1)] 2)) t := fun t k => pre0 t (by
    show Steps p.tables e below (s₁.setTop (mkF m 0 #[.val (.int (4 : Int32)), .val (.int p2_1)] [])) _
    refine XS.iloadN X0.here hx rfl (hb hby d2_0) rfl ?_
    show Steps p.tables e below (s₁.setTop (mkF m 1 #[.val (.int (4 : Int32)), .val (.int p2_1)] [(.int (4 : Int32))])) _
    refine XS.ifYes X0.here hx rfl (pc0 := 1) (pc' := 6) rfl (hb hby d2_1) rfl ((if0 _ _).trans (feq (by decide : ¬ ((4 : Int32) = (0 : Int32)))).2) (by decide) (by decide) ?_
    show Steps p.tables e below (s₁.setTop (mkF m 6 #[.val (.int (4 : Int32)), .val (.int p2_1)] [])) _
    refine XS.iloadN X0.here hx rfl (hb hby d2_6) rfl ?_
    show Steps p.tables e below (s₁.setTop (mkF m 7 #[.val (.int (4 : Int32)), .val (.int p2_1)] [(.int (4 : Int32))])) _
    refine XS.iconst X0.here hx rfl (hb hby d2_7) ?_
    show Steps p.tables e below (s₁.setTop (mkF m 8 #[.val (.int (4 : Int32)), .val (.int p2_1)] [(.int (3 : Int32)), (.int (4 : Int32))])) _
    refine XS.icmpYes X0.here hx rfl (pc0 := 8) (pc' := 13) rfl (hb hby d2_8) rfl (feq (by decide : ¬ ((4 : Int32) = (3 : Int32)))).2 (by decide) (by decide) ?_
    show Steps p.tables e below (s₁.setTop (mkF m 13 #[.val (.int (4 : Int32)), .val (.int p2_1)] [])) _
    refine XS.iloadN X0.here hx rfl (hb hby d2_13) rfl ?_
    show Steps p.tables e below (s₁.setTop (mkF m 14 #[.val (.int (4 : Int32)), .val (.int p2_1)] [(.int (4 : Int32))])) _
    refine XS.iconst X0.here hx rfl (hb hby d2_14) ?_
    show Steps p.tables e below (s₁.setTop (mkF m 15 #[.val (.int (4 : Int32)), .val (.int p2_1)] [(.int (1 : Int32)), (.int (4 : Int32))])) _
    refine XS.icmpNo X0.here hx rfl (hb hby d2_15) rfl (feq (by decide : ¬ ((4 : Int32) = (1 : Int32)))).1 ?_
    show Steps p.tables e below (s₁.setTop (mkF m 18 #[.val (.int (4 : Int32)), .val (.int p2_1)] [])) _
    refine XS.iloadN X0.here hx rfl (hb hby d2_18) rfl ?_
    show Steps p.tables e below (s₁.setTop (mkF m 19 #[.val (.int (4 : Int32)), .val (.int p2_1)] [(.int (4 : Int32))])) _
    refine XS.iconst X0.here hx rfl (hb hby d2_19) ?_
    show Steps p.tables e below (s₁.setTop (mkF m 20 #[.val (.int (4 : Int32)), .val (.int p2_1)] [(.int (5 : Int32)), (.int (4 : Int32))])) _
    refine XS.icmpYes X0.here hx rfl (pc0 := 20) (pc' := 33) rfl (hb hby d2_20) rfl (feq (by decide : ¬ ((4 : Int32) = (5 : Int32)))).2 (by decide) (by decide) ?_
    show Steps p.tables e below (s₁.setTop (mkF m 33 #[.val (.int (4 : Int32)), .val (.int p2_1)] [])) _
    refine XS.iloadN X0.here hx rfl (hb hby d2_33) rfl ?_
    exact k)
  have pre3 : ∀ t, Steps p.tables e below (s₁.setTop (mkF m 42 #[.val (.int (4 : Int32)), .val (.int p2_1)] [(.int (bI (¬ (p2_1 = (0 : Int32)))))])) t → Steps p.tables e below (s₁.setTop (entryFrame m #[(.int (4 : Int32)), (.int p2_1)] 2)) t := fun t k => pre2 t (by
    by_cases hc1 : p2_1 = (0 : Int32)
    · show Steps p.tables e below (s₁.setTop (mkF m 34 #[.val (.int (4 : Int32)), .val (.int p2_1)] [(.int p2_1)])) _
      refine XS.ifYes X0.here hx rfl (pc0 := 34) (pc' := 41) rfl (hb hby d2_34) rfl ((if0 _ _).trans (teq hc1).1) (by decide) (by decide) ?_
      show Steps p.tables e below (s₁.setTop (mkF m 41 #[.val (.int (4 : Int32)), .val (.int p2_1)] [])) _
      refine XS.iconst X0.here hx rfl (hb hby d2_41) ?_
      have q4 : (bI (¬ (p2_1 = (0 : Int32)))) = (0 : Int32) := (bI_f (fun q => q hc1))
      exact castTop (g := (mkF m 42 #[.val (.int (4 : Int32)), .val (.int p2_1)] [(.int (0 : Int32))])) (g' := (mkF m 42 #[.val (.int (4 : Int32)), .val (.int p2_1)] [(.int (bI (¬ (p2_1 = (0 : Int32)))))])) (by simp only [q4]) k
    · show Steps p.tables e below (s₁.setTop (mkF m 34 #[.val (.int (4 : Int32)), .val (.int p2_1)] [(.int p2_1)])) _
      refine XS.ifNo X0.here hx rfl (hb hby d2_34) rfl ((if0 _ _).trans (feq hc1).1) ?_
      show Steps p.tables e below (s₁.setTop (mkF m 37 #[.val (.int (4 : Int32)), .val (.int p2_1)] [])) _
      refine XS.iconst X0.here hx rfl (hb hby d2_37) ?_
      show Steps p.tables e below (s₁.setTop (mkF m 38 #[.val (.int (4 : Int32)), .val (.int p2_1)] [(.int (1 : Int32))])) _
      refine XS.goto X0.here hx rfl (pc0 := 38) (pc' := 42) rfl (hb hby d2_38) (by decide) (by decide) ?_
      have q5 : (bI (¬ (p2_1 = (0 : Int32)))) = (1 : Int32) := (bI_t hc1)
      exact castTop (g := (mkF m 42 #[.val (.int (4 : Int32)), .val (.int p2_1)] [(.int (1 : Int32))])) (g' := (mkF m 42 #[.val (.int (4 : Int32)), .val (.int p2_1)] [(.int (bI (¬ (p2_1 = (0 : Int32)))))])) (by simp only [q5]) k)
  obtain ⟨fs, hr, hrun, hended, hW, hsame⟩ := X0.leave (v := some (.int (bI (¬ (p2_1 = (0 : Int32)))))) (fun h => by rw [Bd.returns] at h; cases h)
  refine ⟨_, _, pre3 _ ?_, hrun, hended, _, _, rfl, ?_, ⟨_, rfl⟩, hW, hsame.mono (by decide) (by decide)⟩
  · show Steps p.tables e below (s₁.setTop (mkF m 42 #[.val (.int (4 : Int32)), .val (.int p2_1)] [(.int (bI (¬ (p2_1 = (0 : Int32)))))])) _
    exact retI X0 hx Bd.returns (hb hby d2_42) hr
  · show Q2_4 Z p2_1 h0 n0 _ s₁.heap _
    rw [e0]
    exact ⟨rfl, N0, rfl⟩
theorem ef_2_rm2_5 (m : MethodId) (x1 : Int32) : entryFrame m #[(.int (5 : Int32)), (.int x1)] 2 = mkF m 0 #[.val (.int (5 : Int32)), .val (.int x1)] [] := by first | (simp [entryFrame, mkF, argsToLocals, Value.category]; done) | rfl
def Q2_5 (Z : State) (p2_1 : Int32) (h0 : Heap) (n0 : Nat) (v : Option Value) (h : Heap) (L : List Loc) : Prop := v = some (.int (if p2_1 = (0 : Int32) then (-1 : Int32) else (0 : Int32))) ∧ Fr n0 L ∧ h = h0
set_option maxRecDepth 65536 in
set_option maxHeartbeats 40000000 in
theorem rm2_5 (l : Launch) (Z : State) (a0 : Array Value) (hw : ∀ d ∈ tables_1, d.before a0 Z = true) (ws : List Jvm.Cond) (p2_1 : Int32) (h0 : Heap) (n0 : Nat) (Z0 : n0 ≤ h0.size) :
    MetFree l (⟨"com/example/shieldwall/shieldwall/model/DirectionRowFromPinLaw", "expectedStep", "(IZ)I"⟩ : MethodName) (head1 (Jvm.Cond.code (⟨"com/example/shieldwall/shieldwall/model/DirectionRowFromPinLaw", "expectedStep", "(IZ)I"⟩ : MethodName) method_3_code 2 (some .int) :: ws) ({ frames := 0, cells := 0, slots := 0, locals := 0 } : Room)) (fun a U => a = #[(.int (5 : Int32)), (.int p2_1)] ∧ Z.Warmed39 U.vm ∧ U.heap = h0) (fun _ _ _ _ _ => True) (fun _ U o U' => ∃ v L, o = .returned v ∧ Q2_5 Z p2_1 h0 n0 v U'.heap L ∧ FrameEnd U o U' L ({ frames := 0, cells := 0, slots := 0, locals := 0 } : Room).cells ({ frames := 0, cells := 0, slots := 0, locals := 0 } : Room).slots) := by
  refine MetFree.of_bodySF (plainFor_of_name pn_2) hisR ?_
  intro p e s m args below meth c s₁ Bd hml0 hP hK
  obtain ⟨rfl, hZ, hh⟩ := hP
  have hVV : ∀ (i : Nat) (d : Jvm.Cond), tables_1[i]? = some d → d.before a0 Z = true := fun i d h => hw d (List.mem_of_getElem? h)
  have hx := Bd.exec
  have hby := Bd.bytes
  have hml : c.maxLocals = 2 := hml0
  have hown : s.vm.findClass "com/example/shieldwall/shieldwall/model/DirectionRowFromPinLaw" = some m.cls := findClass_of_methodNamed Bd.named
  have hnm := (name_of_methodNamed Bd.named Bd.method).1
  have X0 : Stand p l e ({ frames := 0, cells := 0, slots := 0, locals := 0 } : Room) s m #[(.int (5 : Int32)), (.int p2_1)] below meth c s₁ [] 0 0 := Stand.of_body Bd
  have e0 : s₁.heap = h0 := by rw [← hh, Bd.state]; rfl
  have N0 := Fr.nil n0
  have pre0 : ∀ t, Steps p.tables e below (s₁.setTop (mkF m 0 #[.val (.int (5 : Int32)), .val (.int p2_1)] [])) t → Steps p.tables e below (s₁.setTop (entryFrame m #[(.int (5 : Int32)), (.int p2_1)] 2)) t := fun t k => castTop (ef_2_rm2_5 m p2_1) k
  have pre2 : ∀ t, Steps p.tables e below (s₁.setTop (mkF m 24 #[.val (.int (5 : Int32)), .val (.int p2_1)] [(.int p2_1)])) t → Steps p.tables e below (s₁.setTop (entryFrame m #[(.int (5 : Int32)), (.int p2_1)] 2)) t := fun t k => pre0 t (by
    show Steps p.tables e below (s₁.setTop (mkF m 0 #[.val (.int (5 : Int32)), .val (.int p2_1)] [])) _
    refine XS.iloadN X0.here hx rfl (hb hby d2_0) rfl ?_
    show Steps p.tables e below (s₁.setTop (mkF m 1 #[.val (.int (5 : Int32)), .val (.int p2_1)] [(.int (5 : Int32))])) _
    refine XS.ifYes X0.here hx rfl (pc0 := 1) (pc' := 6) rfl (hb hby d2_1) rfl ((if0 _ _).trans (feq (by decide : ¬ ((5 : Int32) = (0 : Int32)))).2) (by decide) (by decide) ?_
    show Steps p.tables e below (s₁.setTop (mkF m 6 #[.val (.int (5 : Int32)), .val (.int p2_1)] [])) _
    refine XS.iloadN X0.here hx rfl (hb hby d2_6) rfl ?_
    show Steps p.tables e below (s₁.setTop (mkF m 7 #[.val (.int (5 : Int32)), .val (.int p2_1)] [(.int (5 : Int32))])) _
    refine XS.iconst X0.here hx rfl (hb hby d2_7) ?_
    show Steps p.tables e below (s₁.setTop (mkF m 8 #[.val (.int (5 : Int32)), .val (.int p2_1)] [(.int (3 : Int32)), (.int (5 : Int32))])) _
    refine XS.icmpYes X0.here hx rfl (pc0 := 8) (pc' := 13) rfl (hb hby d2_8) rfl (feq (by decide : ¬ ((5 : Int32) = (3 : Int32)))).2 (by decide) (by decide) ?_
    show Steps p.tables e below (s₁.setTop (mkF m 13 #[.val (.int (5 : Int32)), .val (.int p2_1)] [])) _
    refine XS.iloadN X0.here hx rfl (hb hby d2_13) rfl ?_
    show Steps p.tables e below (s₁.setTop (mkF m 14 #[.val (.int (5 : Int32)), .val (.int p2_1)] [(.int (5 : Int32))])) _
    refine XS.iconst X0.here hx rfl (hb hby d2_14) ?_
    show Steps p.tables e below (s₁.setTop (mkF m 15 #[.val (.int (5 : Int32)), .val (.int p2_1)] [(.int (1 : Int32)), (.int (5 : Int32))])) _
    refine XS.icmpNo X0.here hx rfl (hb hby d2_15) rfl (feq (by decide : ¬ ((5 : Int32) = (1 : Int32)))).1 ?_
    show Steps p.tables e below (s₁.setTop (mkF m 18 #[.val (.int (5 : Int32)), .val (.int p2_1)] [])) _
    refine XS.iloadN X0.here hx rfl (hb hby d2_18) rfl ?_
    show Steps p.tables e below (s₁.setTop (mkF m 19 #[.val (.int (5 : Int32)), .val (.int p2_1)] [(.int (5 : Int32))])) _
    refine XS.iconst X0.here hx rfl (hb hby d2_19) ?_
    show Steps p.tables e below (s₁.setTop (mkF m 20 #[.val (.int (5 : Int32)), .val (.int p2_1)] [(.int (5 : Int32)), (.int (5 : Int32))])) _
    refine XS.icmpNo X0.here hx rfl (hb hby d2_20) rfl (teq (by decide : (5 : Int32) = (5 : Int32))).2 ?_
    show Steps p.tables e below (s₁.setTop (mkF m 23 #[.val (.int (5 : Int32)), .val (.int p2_1)] [])) _
    refine XS.iloadN X0.here hx rfl (hb hby d2_23) rfl ?_
    exact k)
  have pre3 : ∀ t, Steps p.tables e below (s₁.setTop (mkF m 32 #[.val (.int (5 : Int32)), .val (.int p2_1)] [(.int (if p2_1 = (0 : Int32) then (-1 : Int32) else (0 : Int32)))])) t → Steps p.tables e below (s₁.setTop (entryFrame m #[(.int (5 : Int32)), (.int p2_1)] 2)) t := fun t k => pre2 t (by
    by_cases hc1 : p2_1 = (0 : Int32)
    · show Steps p.tables e below (s₁.setTop (mkF m 24 #[.val (.int (5 : Int32)), .val (.int p2_1)] [(.int p2_1)])) _
      refine XS.ifYes X0.here hx rfl (pc0 := 24) (pc' := 31) rfl (hb hby d2_24) rfl ((if0 _ _).trans (teq hc1).1) (by decide) (by decide) ?_
      show Steps p.tables e below (s₁.setTop (mkF m 31 #[.val (.int (5 : Int32)), .val (.int p2_1)] [])) _
      refine XS.iconst X0.here hx rfl (hb hby d2_31) ?_
      have q4 : (if p2_1 = (0 : Int32) then (-1 : Int32) else (0 : Int32)) = (-1 : Int32) := (if_pos hc1)
      exact castTop (g := (mkF m 32 #[.val (.int (5 : Int32)), .val (.int p2_1)] [(.int (-1 : Int32))])) (g' := (mkF m 32 #[.val (.int (5 : Int32)), .val (.int p2_1)] [(.int (if p2_1 = (0 : Int32) then (-1 : Int32) else (0 : Int32)))])) (by simp only [q4]) k
    · show Steps p.tables e below (s₁.setTop (mkF m 24 #[.val (.int (5 : Int32)), .val (.int p2_1)] [(.int p2_1)])) _
      refine XS.ifNo X0.here hx rfl (hb hby d2_24) rfl ((if0 _ _).trans (feq hc1).1) ?_
      show Steps p.tables e below (s₁.setTop (mkF m 27 #[.val (.int (5 : Int32)), .val (.int p2_1)] [])) _
      refine XS.iconst X0.here hx rfl (hb hby d2_27) ?_
      show Steps p.tables e below (s₁.setTop (mkF m 28 #[.val (.int (5 : Int32)), .val (.int p2_1)] [(.int (0 : Int32))])) _
      refine XS.goto X0.here hx rfl (pc0 := 28) (pc' := 32) rfl (hb hby d2_28) (by decide) (by decide) ?_
      have q5 : (if p2_1 = (0 : Int32) then (-1 : Int32) else (0 : Int32)) = (0 : Int32) := (if_neg hc1)
      exact castTop (g := (mkF m 32 #[.val (.int (5 : Int32)), .val (.int p2_1)] [(.int (0 : Int32))])) (g' := (mkF m 32 #[.val (.int (5 : Int32)), .val (.int p2_1)] [(.int (if p2_1 = (0 : Int32) then (-1 : Int32) else (0 : Int32)))])) (by simp only [q5]) k)
  obtain ⟨fs, hr, hrun, hended, hW, hsame⟩ := X0.leave (v := some (.int (if p2_1 = (0 : Int32) then (-1 : Int32) else (0 : Int32)))) (fun h => by rw [Bd.returns] at h; cases h)
  refine ⟨_, _, pre3 _ ?_, hrun, hended, _, _, rfl, ?_, ⟨_, rfl⟩, hW, hsame.mono (by decide) (by decide)⟩
  · show Steps p.tables e below (s₁.setTop (mkF m 32 #[.val (.int (5 : Int32)), .val (.int p2_1)] [(.int (if p2_1 = (0 : Int32) then (-1 : Int32) else (0 : Int32)))])) _
    exact retI X0 hx Bd.returns (hb hby d2_32) hr
  · show Q2_5 Z p2_1 h0 n0 _ s₁.heap _
    rw [e0]
    exact ⟨rfl, N0, rfl⟩
theorem d3_0 : decode prog_34_method_7_code 0 = .ok (.iload_n 2, 1) := by decide +kernel
theorem d3_1 : decode prog_34_method_7_code 1 = .ok (.iload_n 1, 1) := by decide +kernel
theorem d3_2 : decode prog_34_method_7_code 2 = .ok (.iconst 2, 1) := by decide +kernel
theorem d3_3 : decode prog_34_method_7_code 3 = .ok (.irem, 1) := by decide +kernel
theorem d3_4 : decode prog_34_method_7_code 4 = .ok (.ifCond .ne 10, 3) := by decide +kernel
theorem d3_7 : decode prog_34_method_7_code 7 = .ok (.aload_n 0, 1) := by decide +kernel
theorem d3_8 : decode prog_34_method_7_code 8 = .ok (.getfield 48, 3) := by decide +kernel
theorem d3_11 : decode prog_34_method_7_code 11 = .ok (.goto 7, 3) := by decide +kernel
theorem d3_14 : decode prog_34_method_7_code 14 = .ok (.aload_n 0, 1) := by decide +kernel
theorem d3_15 : decode prog_34_method_7_code 15 = .ok (.getfield 45, 3) := by decide +kernel
theorem d3_18 : decode prog_34_method_7_code 18 = .ok (.iadd, 1) := by decide +kernel
theorem d3_19 : decode prog_34_method_7_code 19 = .ok (.ireturn, 1) := by decide +kernel
theorem pn_3 : plainName "com/example/shieldwall/shieldwall/model/Direction" = true := by first | (simp [plainName, overriddenIn]; done) | decide +kernel
theorem ef_3 (m : MethodId) (x0 : Addr) (x1 : Int32) (x2 : Int32) : entryFrame m #[(.ref x0), (.int x1), (.int x2)] 3 = mkF m 0 #[.val (.ref x0), .val (.int x1), .val (.int x2)] [] := by first | (simp [entryFrame, mkF, argsToLocals, Value.category]; done) | rfl
def Q3 (Z : State) (a3_0 : Addr) (p3_1 : Int32) (p3_2 : Int32) (w3_rowStepFromEven_a3_0 : Int32) (w3_rowStepFromOdd_a3_0 : Int32) (h0 : Heap) (n0 : Nat) (v : Option Value) (h : Heap) (L : List Loc) : Prop := v = some (.int (if (p3_1 - (p3_1 / (2 : Int32)) * (2 : Int32)) = (0 : Int32) then (p3_2 + w3_rowStepFromEven_a3_0) else (p3_2 + w3_rowStepFromOdd_a3_0))) ∧ Fr n0 L ∧ h = h0
set_option maxRecDepth 65536 in
set_option maxHeartbeats 40000000 in
theorem rm3 (l : Launch) (Z : State) (a0 : Array Value) (hw : ∀ d ∈ tables_1, d.before a0 Z = true) (ws : List Jvm.Cond) (a3_0 : Addr) (p3_1 : Int32) (p3_2 : Int32) (w3_rowStepFromEven_a3_0 : Int32) (w3_rowStepFromOdd_a3_0 : Int32) (h0 : Heap) (n0 : Nat) (Z0 : n0 ≤ h0.size) (F_rowStepFromEven_a3_0 : Fld Z h0 a3_0 "com/example/shieldwall/shieldwall/model/Direction" "rowStepFromEven" "I" (.int w3_rowStepFromEven_a3_0)) (F_rowStepFromOdd_a3_0 : Fld Z h0 a3_0 "com/example/shieldwall/shieldwall/model/Direction" "rowStepFromOdd" "I" (.int w3_rowStepFromOdd_a3_0)) :
    MetFree l (⟨"com/example/shieldwall/shieldwall/model/Direction", "rowFrom", "(II)I"⟩ : MethodName) (head1 (Jvm.Cond.code (⟨"com/example/shieldwall/shieldwall/model/Direction", "rowFrom", "(II)I"⟩ : MethodName) prog_34_method_7_code 3 (some .int) :: ws) ({ frames := 0, cells := 0, slots := 0, locals := 0 } : Room)) (fun a U => a = #[(.ref a3_0), (.int p3_1), (.int p3_2)] ∧ Z.Warmed39 U.vm ∧ U.heap = h0) (fun _ _ _ _ _ => True) (fun _ U o U' => ∃ v L, o = .returned v ∧ Q3 Z a3_0 p3_1 p3_2 w3_rowStepFromEven_a3_0 w3_rowStepFromOdd_a3_0 h0 n0 v U'.heap L ∧ FrameEnd U o U' L ({ frames := 0, cells := 0, slots := 0, locals := 0 } : Room).cells ({ frames := 0, cells := 0, slots := 0, locals := 0 } : Room).slots) := by
  refine MetFree.of_bodySF (plainFor_of_name pn_3) hisR ?_
  intro p e s m args below meth c s₁ Bd hml0 hP hK
  obtain ⟨rfl, hZ, hh⟩ := hP
  have hVV : ∀ (i : Nat) (d : Jvm.Cond), tables_1[i]? = some d → d.before a0 Z = true := fun i d h => hw d (List.mem_of_getElem? h)
  have hx := Bd.exec
  have hby := Bd.bytes
  have hml : c.maxLocals = 3 := hml0
  have hown : s.vm.findClass "com/example/shieldwall/shieldwall/model/Direction" = some m.cls := findClass_of_methodNamed Bd.named
  have hnm := (name_of_methodNamed Bd.named Bd.method).1
  have X0 : Stand p l e ({ frames := 0, cells := 0, slots := 0, locals := 0 } : Room) s m #[(.ref a3_0), (.int p3_1), (.int p3_2)] below meth c s₁ [] 0 0 := Stand.of_body Bd
  have e0 : s₁.heap = h0 := by rw [← hh, Bd.state]; rfl
  have N0 := Fr.nil n0
  have pre0 : ∀ t, Steps p.tables e below (s₁.setTop (mkF m 0 #[.val (.ref a3_0), .val (.int p3_1), .val (.int p3_2)] [])) t → Steps p.tables e below (s₁.setTop (entryFrame m #[(.ref a3_0), (.int p3_1), (.int p3_2)] 3)) t := fun t k => castTop (ef_3 m a3_0 p3_1 p3_2) k
  by_cases hc2 : (p3_1 - (p3_1 / (2 : Int32)) * (2 : Int32)) = (0 : Int32)
  · obtain ⟨T3, X3, e3, st3⟩ := getF X0 hx hZ hown (host := "") (Or.inl (hVV 20 _ rfl)) Via.refl e0 F_rowStepFromEven_a3_0 (g := (mkF m 8 #[.val (.ref a3_0), .val (.int p3_1), .val (.int p3_2)] [(.ref a3_0), (.int p3_2)])) rfl rfl (hb hby d3_8)
    have pre4 : ∀ t, Steps p.tables e below (T3.setTop (mkF m 11 #[.val (.ref a3_0), .val (.int p3_1), .val (.int p3_2)] [(.int w3_rowStepFromEven_a3_0), (.int p3_2)])) t → Steps p.tables e below (s₁.setTop (entryFrame m #[(.ref a3_0), (.int p3_1), (.int p3_2)] 3)) t := fun t k => pre0 t (by
      show Steps p.tables e below (s₁.setTop (mkF m 0 #[.val (.ref a3_0), .val (.int p3_1), .val (.int p3_2)] [])) _
      refine XS.iloadN X0.here hx rfl (hb hby d3_0) rfl ?_
      show Steps p.tables e below (s₁.setTop (mkF m 1 #[.val (.ref a3_0), .val (.int p3_1), .val (.int p3_2)] [(.int p3_2)])) _
      refine XS.iloadN X0.here hx rfl (hb hby d3_1) rfl ?_
      show Steps p.tables e below (s₁.setTop (mkF m 2 #[.val (.ref a3_0), .val (.int p3_1), .val (.int p3_2)] [(.int p3_1), (.int p3_2)])) _
      refine XS.iconst X0.here hx rfl (hb hby d3_2) ?_
      show Steps p.tables e below (s₁.setTop (mkF m 3 #[.val (.ref a3_0), .val (.int p3_1), .val (.int p3_2)] [(.int (2 : Int32)), (.int p3_1), (.int p3_2)])) _
      refine XS.irem X0.here hx rfl (hb hby d3_3) rfl (by decide) ?_
      show Steps p.tables e below (s₁.setTop (mkF m 4 #[.val (.ref a3_0), .val (.int p3_1), .val (.int p3_2)] [(.int (p3_1 - (p3_1 / (2 : Int32)) * (2 : Int32))), (.int p3_2)])) _
      refine XS.ifNo X0.here hx rfl (hb hby d3_4) rfl ((if0 _ _).trans (teq hc2).2) ?_
      show Steps p.tables e below (s₁.setTop (mkF m 7 #[.val (.ref a3_0), .val (.int p3_1), .val (.int p3_2)] [(.int p3_2)])) _
      refine XS.aloadN X0.here hx rfl (hb hby d3_7) rfl rfl ?_
      show Steps p.tables e below (s₁.setTop (mkF m 8 #[.val (.ref a3_0), .val (.int p3_1), .val (.int p3_2)] [(.ref a3_0), (.int p3_2)])) _
      refine st3 _ ?_
      exact k)
    obtain ⟨fs, hr, hrun, hended, hW, hsame⟩ := X3.leave (v := some (.int (p3_2 + w3_rowStepFromEven_a3_0))) (fun h => by rw [Bd.returns] at h; cases h)
    refine ⟨_, _, pre4 _ ?_, hrun, hended, _, _, rfl, ?_, ⟨_, rfl⟩, hW, hsame.mono (by decide) (by decide)⟩
    · show Steps p.tables e below (T3.setTop (mkF m 11 #[.val (.ref a3_0), .val (.int p3_1), .val (.int p3_2)] [(.int w3_rowStepFromEven_a3_0), (.int p3_2)])) _
      refine XS.goto X3.here hx rfl (pc0 := 11) (pc' := 18) rfl (hb hby d3_11) (by decide) (by decide) ?_
      show Steps p.tables e below (T3.setTop (mkF m 18 #[.val (.ref a3_0), .val (.int p3_1), .val (.int p3_2)] [(.int w3_rowStepFromEven_a3_0), (.int p3_2)])) _
      refine XS.iadd X3.here hx rfl (hb hby d3_18) rfl ?_
      show Steps p.tables e below (T3.setTop (mkF m 19 #[.val (.ref a3_0), .val (.int p3_1), .val (.int p3_2)] [(.int (p3_2 + w3_rowStepFromEven_a3_0))])) _
      exact retI X3 hx Bd.returns (hb hby d3_19) hr
    · show Q3 Z a3_0 p3_1 p3_2 w3_rowStepFromEven_a3_0 w3_rowStepFromOdd_a3_0 h0 n0 _ T3.heap _
      rw [e3]
      exact ⟨(congrArg (fun z => some (Value.int z)) ((if_pos hc2) : (if (p3_1 - (p3_1 / (2 : Int32)) * (2 : Int32)) = (0 : Int32) then (p3_2 + w3_rowStepFromEven_a3_0) else (p3_2 + w3_rowStepFromOdd_a3_0)) = (p3_2 + w3_rowStepFromEven_a3_0)).symm), N0, rfl⟩
  · obtain ⟨T5, X5, e5, st5⟩ := getF X0 hx hZ hown (host := "") (Or.inl (hVV 16 _ rfl)) Via.refl e0 F_rowStepFromOdd_a3_0 (g := (mkF m 15 #[.val (.ref a3_0), .val (.int p3_1), .val (.int p3_2)] [(.ref a3_0), (.int p3_2)])) rfl rfl (hb hby d3_15)
    have pre6 : ∀ t, Steps p.tables e below (T5.setTop (mkF m 18 #[.val (.ref a3_0), .val (.int p3_1), .val (.int p3_2)] [(.int w3_rowStepFromOdd_a3_0), (.int p3_2)])) t → Steps p.tables e below (s₁.setTop (entryFrame m #[(.ref a3_0), (.int p3_1), (.int p3_2)] 3)) t := fun t k => pre0 t (by
      show Steps p.tables e below (s₁.setTop (mkF m 0 #[.val (.ref a3_0), .val (.int p3_1), .val (.int p3_2)] [])) _
      refine XS.iloadN X0.here hx rfl (hb hby d3_0) rfl ?_
      show Steps p.tables e below (s₁.setTop (mkF m 1 #[.val (.ref a3_0), .val (.int p3_1), .val (.int p3_2)] [(.int p3_2)])) _
      refine XS.iloadN X0.here hx rfl (hb hby d3_1) rfl ?_
      show Steps p.tables e below (s₁.setTop (mkF m 2 #[.val (.ref a3_0), .val (.int p3_1), .val (.int p3_2)] [(.int p3_1), (.int p3_2)])) _
      refine XS.iconst X0.here hx rfl (hb hby d3_2) ?_
      show Steps p.tables e below (s₁.setTop (mkF m 3 #[.val (.ref a3_0), .val (.int p3_1), .val (.int p3_2)] [(.int (2 : Int32)), (.int p3_1), (.int p3_2)])) _
      refine XS.irem X0.here hx rfl (hb hby d3_3) rfl (by decide) ?_
      show Steps p.tables e below (s₁.setTop (mkF m 4 #[.val (.ref a3_0), .val (.int p3_1), .val (.int p3_2)] [(.int (p3_1 - (p3_1 / (2 : Int32)) * (2 : Int32))), (.int p3_2)])) _
      refine XS.ifYes X0.here hx rfl (pc0 := 4) (pc' := 14) rfl (hb hby d3_4) rfl ((if0 _ _).trans (feq hc2).2) (by decide) (by decide) ?_
      show Steps p.tables e below (s₁.setTop (mkF m 14 #[.val (.ref a3_0), .val (.int p3_1), .val (.int p3_2)] [(.int p3_2)])) _
      refine XS.aloadN X0.here hx rfl (hb hby d3_14) rfl rfl ?_
      show Steps p.tables e below (s₁.setTop (mkF m 15 #[.val (.ref a3_0), .val (.int p3_1), .val (.int p3_2)] [(.ref a3_0), (.int p3_2)])) _
      refine st5 _ ?_
      exact k)
    obtain ⟨fs, hr, hrun, hended, hW, hsame⟩ := X5.leave (v := some (.int (p3_2 + w3_rowStepFromOdd_a3_0))) (fun h => by rw [Bd.returns] at h; cases h)
    refine ⟨_, _, pre6 _ ?_, hrun, hended, _, _, rfl, ?_, ⟨_, rfl⟩, hW, hsame.mono (by decide) (by decide)⟩
    · show Steps p.tables e below (T5.setTop (mkF m 18 #[.val (.ref a3_0), .val (.int p3_1), .val (.int p3_2)] [(.int w3_rowStepFromOdd_a3_0), (.int p3_2)])) _
      refine XS.iadd X5.here hx rfl (hb hby d3_18) rfl ?_
      show Steps p.tables e below (T5.setTop (mkF m 19 #[.val (.ref a3_0), .val (.int p3_1), .val (.int p3_2)] [(.int (p3_2 + w3_rowStepFromOdd_a3_0))])) _
      exact retI X5 hx Bd.returns (hb hby d3_19) hr
    · show Q3 Z a3_0 p3_1 p3_2 w3_rowStepFromEven_a3_0 w3_rowStepFromOdd_a3_0 h0 n0 _ T5.heap _
      rw [e5]
      exact ⟨(congrArg (fun z => some (Value.int z)) ((if_neg hc2) : (if (p3_1 - (p3_1 / (2 : Int32)) * (2 : Int32)) = (0 : Int32) then (p3_2 + w3_rowStepFromEven_a3_0) else (p3_2 + w3_rowStepFromOdd_a3_0)) = (p3_2 + w3_rowStepFromOdd_a3_0)).symm), N0, rfl⟩
theorem pd_0 : parseMethodDescriptor "(I)Lcom/example/shieldwall/shieldwall/model/Direction;" = some ⟨[.int], some (.object "com/example/shieldwall/shieldwall/model/Direction")⟩ := by decide +kernel
theorem pd_1 : parseMethodDescriptor "(IZ)I" = some ⟨[.int, .boolean], some .int⟩ := by decide +kernel
theorem pd_2 : parseMethodDescriptor "(II)I" = some ⟨[.int, .int], some .int⟩ := by decide +kernel
theorem pn_0 : plainName "com/example/shieldwall/shieldwall/model/DirectionRowFromPinLaw" = true := by first | (simp [plainName, overriddenIn]; done) | decide +kernel
theorem ef_0 (m : MethodId) (x0 : Int32) (x1 : Int32) (x2 : Int32) : entryFrame m #[(.int x0), (.int x1), (.int x2)] maxLocals = mkF m 0 #[.val (.int x0), .val (.int x1), .val (.int x2), .unset, .unset, .unset, .unset] [] := by first | (simp [entryFrame, mkF, argsToLocals, Value.category, maxLocals]; done) | rfl
def Q0 (Z : State) (p0_0 : Int32) (p0_1 : Int32) (p0_2 : Int32) (w0_NORTH : Addr) (w0_NORTH_EAST : Addr) (w0_SOUTH_EAST : Addr) (w0_SOUTH : Addr) (w0_SOUTH_WEST : Addr) (w0_NORTH_WEST : Addr) (h0 : Heap) (n0 : Nat) (v : Option Value) (h : Heap) (L : List Loc) : Prop := v = some (.int (1 : Int32)) ∧ Fr n0 L
set_option maxRecDepth 65536 in
set_option maxHeartbeats 40000000 in
theorem rm0 (l : Launch) (Z : State) (a0 : Array Value) (hw : ∀ d ∈ tables_1, d.before a0 Z = true) (ws : List Jvm.Cond) (p0_0 : Int32) (p0_1 : Int32) (p0_2 : Int32) (w0_NORTH : Addr) (w0_NORTH_EAST : Addr) (w0_SOUTH_EAST : Addr) (w0_SOUTH : Addr) (w0_SOUTH_WEST : Addr) (w0_NORTH_WEST : Addr) (h0 : Heap) (n0 : Nat) (Z0 : n0 ≤ h0.size) (O0 : Old Z n0 h0) (S_NORTH : Sta Z Z.heap "com/example/shieldwall/shieldwall/model/Direction" "NORTH" "Lcom/example/shieldwall/shieldwall/model/Direction;" (.ref w0_NORTH)) (S_NORTH_EAST : Sta Z Z.heap "com/example/shieldwall/shieldwall/model/Direction" "NORTH_EAST" "Lcom/example/shieldwall/shieldwall/model/Direction;" (.ref w0_NORTH_EAST)) (S_SOUTH_EAST : Sta Z Z.heap "com/example/shieldwall/shieldwall/model/Direction" "SOUTH_EAST" "Lcom/example/shieldwall/shieldwall/model/Direction;" (.ref w0_SOUTH_EAST)) (S_SOUTH : Sta Z Z.heap "com/example/shieldwall/shieldwall/model/Direction" "SOUTH" "Lcom/example/shieldwall/shieldwall/model/Direction;" (.ref w0_SOUTH)) (S_SOUTH_WEST : Sta Z Z.heap "com/example/shieldwall/shieldwall/model/Direction" "SOUTH_WEST" "Lcom/example/shieldwall/shieldwall/model/Direction;" (.ref w0_SOUTH_WEST)) (S_NORTH_WEST : Sta Z Z.heap "com/example/shieldwall/shieldwall/model/Direction" "NORTH_WEST" "Lcom/example/shieldwall/shieldwall/model/Direction;" (.ref w0_NORTH_WEST)) (FF_NORTH_rowStepFromEven : Fld Z h0 w0_NORTH "com/example/shieldwall/shieldwall/model/Direction" "rowStepFromEven" "I" (.int (-1 : Int32))) (FF_NORTH_rowStepFromOdd : Fld Z h0 w0_NORTH "com/example/shieldwall/shieldwall/model/Direction" "rowStepFromOdd" "I" (.int (-1 : Int32))) (EE_NORTH : Exa Z h0 w0_NORTH "com/example/shieldwall/shieldwall/model/Direction") (FF_NORTH_EAST_rowStepFromEven : Fld Z h0 w0_NORTH_EAST "com/example/shieldwall/shieldwall/model/Direction" "rowStepFromEven" "I" (.int (0 : Int32))) (FF_NORTH_EAST_rowStepFromOdd : Fld Z h0 w0_NORTH_EAST "com/example/shieldwall/shieldwall/model/Direction" "rowStepFromOdd" "I" (.int (-1 : Int32))) (EE_NORTH_EAST : Exa Z h0 w0_NORTH_EAST "com/example/shieldwall/shieldwall/model/Direction") (FF_SOUTH_EAST_rowStepFromEven : Fld Z h0 w0_SOUTH_EAST "com/example/shieldwall/shieldwall/model/Direction" "rowStepFromEven" "I" (.int (1 : Int32))) (FF_SOUTH_EAST_rowStepFromOdd : Fld Z h0 w0_SOUTH_EAST "com/example/shieldwall/shieldwall/model/Direction" "rowStepFromOdd" "I" (.int (0 : Int32))) (EE_SOUTH_EAST : Exa Z h0 w0_SOUTH_EAST "com/example/shieldwall/shieldwall/model/Direction") (FF_SOUTH_rowStepFromEven : Fld Z h0 w0_SOUTH "com/example/shieldwall/shieldwall/model/Direction" "rowStepFromEven" "I" (.int (1 : Int32))) (FF_SOUTH_rowStepFromOdd : Fld Z h0 w0_SOUTH "com/example/shieldwall/shieldwall/model/Direction" "rowStepFromOdd" "I" (.int (1 : Int32))) (EE_SOUTH : Exa Z h0 w0_SOUTH "com/example/shieldwall/shieldwall/model/Direction") (FF_SOUTH_WEST_rowStepFromEven : Fld Z h0 w0_SOUTH_WEST "com/example/shieldwall/shieldwall/model/Direction" "rowStepFromEven" "I" (.int (1 : Int32))) (FF_SOUTH_WEST_rowStepFromOdd : Fld Z h0 w0_SOUTH_WEST "com/example/shieldwall/shieldwall/model/Direction" "rowStepFromOdd" "I" (.int (0 : Int32))) (EE_SOUTH_WEST : Exa Z h0 w0_SOUTH_WEST "com/example/shieldwall/shieldwall/model/Direction") (FF_NORTH_WEST_rowStepFromEven : Fld Z h0 w0_NORTH_WEST "com/example/shieldwall/shieldwall/model/Direction" "rowStepFromEven" "I" (.int (0 : Int32))) (FF_NORTH_WEST_rowStepFromOdd : Fld Z h0 w0_NORTH_WEST "com/example/shieldwall/shieldwall/model/Direction" "rowStepFromOdd" "I" (.int (-1 : Int32))) (EE_NORTH_WEST : Exa Z h0 w0_NORTH_WEST "com/example/shieldwall/shieldwall/model/Direction") :
    MetFree l x (head1 (Jvm.Cond.code x code maxLocals ret :: ws) room_1) (fun a U => a = #[(.int p0_0), (.int p0_1), (.int p0_2)] ∧ Z.Warmed39 U.vm ∧ U.heap = h0) (fun _ _ _ _ _ => True) (fun _ U o U' => ∃ v L, o = .returned v ∧ Q0 Z p0_0 p0_1 p0_2 w0_NORTH w0_NORTH_EAST w0_SOUTH_EAST w0_SOUTH w0_SOUTH_WEST w0_NORTH_WEST h0 n0 v U'.heap L ∧ FrameEnd U o U' L room_1.cells room_1.slots) := by
  refine MetFree.of_bodySF (plainFor_of_name pn_0) hisR ?_
  intro p e s m args below meth c s₁ Bd hml0 hP hK
  obtain ⟨rfl, hZ, hh⟩ := hP
  have hVV : ∀ (i : Nat) (d : Jvm.Cond), tables_1[i]? = some d → d.before a0 Z = true := fun i d h => hw d (List.mem_of_getElem? h)
  have hx := Bd.exec
  have hby := Bd.bytes
  have hml : c.maxLocals = 7 := hml0
  have hown : s.vm.findClass "com/example/shieldwall/shieldwall/model/DirectionRowFromPinLaw" = some m.cls := findClass_of_methodNamed Bd.named
  have hnm := (name_of_methodNamed Bd.named Bd.method).1
  have X0 : Stand p l e room_1 s m #[(.int p0_0), (.int p0_1), (.int p0_2)] below meth c s₁ [] 0 0 := Stand.of_body Bd
  have e0 : s₁.heap = h0 := by rw [← hh, Bd.state]; rfl
  have N0 := Fr.nil n0
  have pre0 : ∀ t, Steps p.tables e below (s₁.setTop (mkF m 0 #[.val (.int p0_0), .val (.int p0_1), .val (.int p0_2), .unset, .unset, .unset, .unset] [])) t → Steps p.tables e below (s₁.setTop (entryFrame m #[(.int p0_0), (.int p0_1), (.int p0_2)] maxLocals)) t := fun t k => castTop (ef_0 m p0_0 p0_1 p0_2) k
  have pre1 : ∀ t, Steps p.tables e below (s₁.setTop (mkF m 8 #[.val (.int p0_0), .val (.int p0_1), .val (.int p0_2), .val (.int ((p0_0 &&& (2147483647 : Int32)) - ((p0_0 &&& (2147483647 : Int32)) / (6 : Int32)) * (6 : Int32))), .unset, .unset, .unset] [])) t → Steps p.tables e below (s₁.setTop (entryFrame m #[(.int p0_0), (.int p0_1), (.int p0_2)] maxLocals)) t := fun t k => pre0 t (by
    show Steps p.tables e below (s₁.setTop (mkF m 0 #[.val (.int p0_0), .val (.int p0_1), .val (.int p0_2), .unset, .unset, .unset, .unset] [])) _
    refine XS.iloadN X0.here hx rfl (hb hby at_0) rfl ?_
    show Steps p.tables e below (s₁.setTop (mkF m 1 #[.val (.int p0_0), .val (.int p0_1), .val (.int p0_2), .unset, .unset, .unset, .unset] [(.int p0_0)])) _
    refine X0.ldcInt hx hown (mvT hZ (hVV 0 _ rfl)) (g := (mkF m 1 #[.val (.int p0_0), .val (.int p0_1), .val (.int p0_2), .unset, .unset, .unset, .unset] [(.int p0_0)])) rfl (hb hby at_1) _ ?_
    show Steps p.tables e below (s₁.setTop (mkF m 3 #[.val (.int p0_0), .val (.int p0_1), .val (.int p0_2), .unset, .unset, .unset, .unset] [(.int (2147483647 : Int32)), (.int p0_0)])) _
    refine XS.iand X0.here hx rfl (hb hby at_3) rfl ?_
    show Steps p.tables e below (s₁.setTop (mkF m 4 #[.val (.int p0_0), .val (.int p0_1), .val (.int p0_2), .unset, .unset, .unset, .unset] [(.int (p0_0 &&& (2147483647 : Int32)))])) _
    refine XS.bipush X0.here hx rfl (hb hby at_4) ?_
    show Steps p.tables e below (s₁.setTop (mkF m 6 #[.val (.int p0_0), .val (.int p0_1), .val (.int p0_2), .unset, .unset, .unset, .unset] [(.int (6 : Int32)), (.int (p0_0 &&& (2147483647 : Int32)))])) _
    refine XS.irem X0.here hx rfl (hb hby at_6) rfl (by decide) ?_
    show Steps p.tables e below (s₁.setTop (mkF m 7 #[.val (.int p0_0), .val (.int p0_1), .val (.int p0_2), .unset, .unset, .unset, .unset] [(.int ((p0_0 &&& (2147483647 : Int32)) - ((p0_0 &&& (2147483647 : Int32)) / (6 : Int32)) * (6 : Int32)))])) _
    refine XS.istoreN X0.here hx rfl (hb hby at_7) rfl (l' := #[.val (.int p0_0), .val (.int p0_1), .val (.int p0_2), .val (.int ((p0_0 &&& (2147483647 : Int32)) - ((p0_0 &&& (2147483647 : Int32)) / (6 : Int32)) * (6 : Int32))), .unset, .unset, .unset]) rfl ?_
    exact k)
  rcases own_k p0_0 with hk | hk | hk | hk | hk | hk
  · have pre2 : ∀ t, Steps p.tables e below (s₁.setTop (mkF m 8 #[.val (.int p0_0), .val (.int p0_1), .val (.int p0_2), .val (.int (0 : Int32)), .unset, .unset, .unset] [])) t → Steps p.tables e below (s₁.setTop (entryFrame m #[(.int p0_0), (.int p0_1), (.int p0_2)] maxLocals)) t := fun t k => pre1 t (castTop (by rw [hk]) k)
    obtain ⟨_, _, ⟨T3, L3, k3, n3⟩, -, X3, ⟨Lc3, hQ3, l3, y3, z3⟩, st3⟩ := Jvm.LawKit.callS X0 hx (y := (⟨"com/example/shieldwall/shieldwall/model/DirectionRowFromPinLaw", "pick", "(I)Lcom/example/shieldwall/shieldwall/model/Direction;"⟩ : MethodName)) hown (mvT hZ (hVV 1 _ rfl)) (mvT hZ (hVV 2 _ rfl)) (mvT hZ (hVV 3 _ rfl)) (mvT hZ (hVV 4 _ rfl)) (by decide) (backOf (W := 0) (rm1_0 l Z a0 hw [] w0_NORTH h0 n0 Z0 O0 S_NORTH) hZ (hVV 4 _ rfl) (hVV 3 _ rfl) (by decide) (by decide)) (g := (mkF m 9 #[.val (.int p0_0), .val (.int p0_1), .val (.int p0_2), .val (.int (0 : Int32)), .unset, .unset, .unset] [(.int (0 : Int32))])) rfl (by rw [hml]; rfl) (argsL := [(.int (0 : Int32))]) (rest := []) (lenOf pd_0 rfl) rfl (by show 2 * 0 + _ ≤ _; exact Nat.le_of_eq rfl) (hb hby at_9) (fun _ _ => ⟨rfl, e0, (by decide : 0 + 0 ≤ _), (by decide : 0 + 0 ≤ _)⟩)
    dsimp only [Pt.U, Pt.locs, Pt.cells, Pt.slots] at X3 l3 y3 z3 st3 hQ3
    subst l3 y3 z3
    obtain ⟨rfl, N3q, e3⟩ := hQ3
    have N4 := Fr.app N0 N3q
    have pre5 : ∀ t, Steps p.tables e below (T3.setTop (mkF m 12 #[.val (.int p0_0), .val (.int p0_1), .val (.int p0_2), .val (.int (0 : Int32)), .unset, .unset, .unset] [(.ref w0_NORTH)])) t → Steps p.tables e below (s₁.setTop (entryFrame m #[(.int p0_0), (.int p0_1), (.int p0_2)] maxLocals)) t := fun t k => pre2 t (by
      show Steps p.tables e below (s₁.setTop (mkF m 8 #[.val (.int p0_0), .val (.int p0_1), .val (.int p0_2), .val (.int (0 : Int32)), .unset, .unset, .unset] [])) _
      refine XS.iloadN X0.here hx rfl (hb hby at_8) rfl ?_
      show Steps p.tables e below (s₁.setTop (mkF m 9 #[.val (.int p0_0), .val (.int p0_1), .val (.int p0_2), .val (.int (0 : Int32)), .unset, .unset, .unset] [(.int (0 : Int32))])) _
      refine st3 _ ?_
      exact k)
    have pre7 : ∀ t, Steps p.tables e below (T3.setTop (mkF m 17 #[.val (.int p0_0), .val (.int p0_1), .val (.int p0_2), .val (.int (0 : Int32)), .val (.ref w0_NORTH), .unset, .unset] [(.int (p0_1 &&& (1 : Int32)))])) t → Steps p.tables e below (s₁.setTop (entryFrame m #[(.int p0_0), (.int p0_1), (.int p0_2)] maxLocals)) t := fun t k => pre5 t (by
      show Steps p.tables e below (T3.setTop (mkF m 12 #[.val (.int p0_0), .val (.int p0_1), .val (.int p0_2), .val (.int (0 : Int32)), .unset, .unset, .unset] [(.ref w0_NORTH)])) _
      refine XS.astore X3.here hx rfl (hb hby at_12) rfl rfl (l' := #[.val (.int p0_0), .val (.int p0_1), .val (.int p0_2), .val (.int (0 : Int32)), .val (.ref w0_NORTH), .unset, .unset]) rfl ?_
      show Steps p.tables e below (T3.setTop (mkF m 14 #[.val (.int p0_0), .val (.int p0_1), .val (.int p0_2), .val (.int (0 : Int32)), .val (.ref w0_NORTH), .unset, .unset] [])) _
      refine XS.iloadN X3.here hx rfl (hb hby at_14) rfl ?_
      show Steps p.tables e below (T3.setTop (mkF m 15 #[.val (.int p0_0), .val (.int p0_1), .val (.int p0_2), .val (.int (0 : Int32)), .val (.ref w0_NORTH), .unset, .unset] [(.int p0_1)])) _
      refine XS.iconst X3.here hx rfl (hb hby at_15) ?_
      show Steps p.tables e below (T3.setTop (mkF m 16 #[.val (.int p0_0), .val (.int p0_1), .val (.int p0_2), .val (.int (0 : Int32)), .val (.ref w0_NORTH), .unset, .unset] [(.int (1 : Int32)), (.int p0_1)])) _
      refine XS.iand X3.here hx rfl (hb hby at_16) rfl ?_
      exact k)
    have pre8 : ∀ t, Steps p.tables e below (T3.setTop (mkF m 25 #[.val (.int p0_0), .val (.int p0_1), .val (.int p0_2), .val (.int (0 : Int32)), .val (.ref w0_NORTH), .unset, .unset] [(.int (bI ((p0_1 &&& (1 : Int32)) = (0 : Int32))))])) t → Steps p.tables e below (s₁.setTop (entryFrame m #[(.int p0_0), (.int p0_1), (.int p0_2)] maxLocals)) t := fun t k => pre7 t (by
      by_cases hc6 : (p0_1 &&& (1 : Int32)) = (0 : Int32)
      · show Steps p.tables e below (T3.setTop (mkF m 17 #[.val (.int p0_0), .val (.int p0_1), .val (.int p0_2), .val (.int (0 : Int32)), .val (.ref w0_NORTH), .unset, .unset] [(.int (p0_1 &&& (1 : Int32)))])) _
        refine XS.ifNo X3.here hx rfl (hb hby at_17) rfl ((if0 _ _).trans (teq hc6).2) ?_
        show Steps p.tables e below (T3.setTop (mkF m 20 #[.val (.int p0_0), .val (.int p0_1), .val (.int p0_2), .val (.int (0 : Int32)), .val (.ref w0_NORTH), .unset, .unset] [])) _
        refine XS.iconst X3.here hx rfl (hb hby at_20) ?_
        show Steps p.tables e below (T3.setTop (mkF m 21 #[.val (.int p0_0), .val (.int p0_1), .val (.int p0_2), .val (.int (0 : Int32)), .val (.ref w0_NORTH), .unset, .unset] [(.int (1 : Int32))])) _
        refine XS.goto X3.here hx rfl (pc0 := 21) (pc' := 25) rfl (hb hby at_21) (by decide) (by decide) ?_
        have q9 : (bI ((p0_1 &&& (1 : Int32)) = (0 : Int32))) = (1 : Int32) := (bI_t hc6)
        exact castTop (g := (mkF m 25 #[.val (.int p0_0), .val (.int p0_1), .val (.int p0_2), .val (.int (0 : Int32)), .val (.ref w0_NORTH), .unset, .unset] [(.int (1 : Int32))])) (g' := (mkF m 25 #[.val (.int p0_0), .val (.int p0_1), .val (.int p0_2), .val (.int (0 : Int32)), .val (.ref w0_NORTH), .unset, .unset] [(.int (bI ((p0_1 &&& (1 : Int32)) = (0 : Int32))))])) (by simp only [q9]) k
      · show Steps p.tables e below (T3.setTop (mkF m 17 #[.val (.int p0_0), .val (.int p0_1), .val (.int p0_2), .val (.int (0 : Int32)), .val (.ref w0_NORTH), .unset, .unset] [(.int (p0_1 &&& (1 : Int32)))])) _
        refine XS.ifYes X3.here hx rfl (pc0 := 17) (pc' := 24) rfl (hb hby at_17) rfl ((if0 _ _).trans (feq hc6).2) (by decide) (by decide) ?_
        show Steps p.tables e below (T3.setTop (mkF m 24 #[.val (.int p0_0), .val (.int p0_1), .val (.int p0_2), .val (.int (0 : Int32)), .val (.ref w0_NORTH), .unset, .unset] [])) _
        refine XS.iconst X3.here hx rfl (hb hby at_24) ?_
        have q10 : (bI ((p0_1 &&& (1 : Int32)) = (0 : Int32))) = (0 : Int32) := (bI_f hc6)
        exact castTop (g := (mkF m 25 #[.val (.int p0_0), .val (.int p0_1), .val (.int p0_2), .val (.int (0 : Int32)), .val (.ref w0_NORTH), .unset, .unset] [(.int (0 : Int32))])) (g' := (mkF m 25 #[.val (.int p0_0), .val (.int p0_1), .val (.int p0_2), .val (.int (0 : Int32)), .val (.ref w0_NORTH), .unset, .unset] [(.int (bI ((p0_1 &&& (1 : Int32)) = (0 : Int32))))])) (by simp only [q10]) k)
    obtain ⟨_, _, ⟨T11, L11, k11, n11⟩, -, X11, ⟨Lc11, hQ11, l11, y11, z11⟩, st11⟩ := Jvm.LawKit.callS X3 hx (y := (⟨"com/example/shieldwall/shieldwall/model/DirectionRowFromPinLaw", "expectedStep", "(IZ)I"⟩ : MethodName)) hown (mvT hZ (hVV 8 _ rfl)) (mvT hZ (hVV 9 _ rfl)) (mvT hZ (hVV 3 _ rfl)) (mvT hZ (hVV 10 _ rfl)) (by decide) (backOf (W := 1) (rm2_0 l Z a0 hw [] (bI ((p0_1 &&& (1 : Int32)) = (0 : Int32))) h0 n0 Z0 ) hZ (hVV 10 _ rfl) (hVV 3 _ rfl) (by decide) (by decide)) (g := (mkF m 31 #[.val (.int p0_0), .val (.int p0_1), .val (.int p0_2), .val (.int (0 : Int32)), .val (.ref w0_NORTH), .val (.int (bI ((p0_1 &&& (1 : Int32)) = (0 : Int32)))), .unset] [(.int (bI ((p0_1 &&& (1 : Int32)) = (0 : Int32)))), (.int (0 : Int32)), (.int p0_2)])) rfl (by rw [hml]; rfl) (argsL := [(.int (0 : Int32)), (.int (bI ((p0_1 &&& (1 : Int32)) = (0 : Int32))))]) (rest := [(.int p0_2)]) (lenOf pd_1 rfl) rfl (by show 2 * 0 + _ ≤ _; exact Nat.le_of_eq rfl) (hb hby at_31) (fun _ _ => ⟨rfl, e3, (by decide : 0 + 0 ≤ _), (by decide : 0 + 0 ≤ _)⟩)
    dsimp only [Pt.U, Pt.locs, Pt.cells, Pt.slots] at X11 l11 y11 z11 st11 hQ11
    subst l11 y11 z11
    obtain ⟨rfl, N11q, e11⟩ := hQ11
    have N12 := Fr.app N4 N11q
    have pre13 : ∀ t, Steps p.tables e below (T11.setTop (mkF m 34 #[.val (.int p0_0), .val (.int p0_1), .val (.int p0_2), .val (.int (0 : Int32)), .val (.ref w0_NORTH), .val (.int (bI ((p0_1 &&& (1 : Int32)) = (0 : Int32)))), .unset] [(.int (-1 : Int32)), (.int p0_2)])) t → Steps p.tables e below (s₁.setTop (entryFrame m #[(.int p0_0), (.int p0_1), (.int p0_2)] maxLocals)) t := fun t k => pre8 t (by
      show Steps p.tables e below (T3.setTop (mkF m 25 #[.val (.int p0_0), .val (.int p0_1), .val (.int p0_2), .val (.int (0 : Int32)), .val (.ref w0_NORTH), .unset, .unset] [(.int (bI ((p0_1 &&& (1 : Int32)) = (0 : Int32))))])) _
      refine XS.istore X3.here hx rfl (hb hby at_25) rfl (l' := #[.val (.int p0_0), .val (.int p0_1), .val (.int p0_2), .val (.int (0 : Int32)), .val (.ref w0_NORTH), .val (.int (bI ((p0_1 &&& (1 : Int32)) = (0 : Int32)))), .unset]) rfl ?_
      show Steps p.tables e below (T3.setTop (mkF m 27 #[.val (.int p0_0), .val (.int p0_1), .val (.int p0_2), .val (.int (0 : Int32)), .val (.ref w0_NORTH), .val (.int (bI ((p0_1 &&& (1 : Int32)) = (0 : Int32)))), .unset] [])) _
      refine XS.iloadN X3.here hx rfl (hb hby at_27) rfl ?_
      show Steps p.tables e below (T3.setTop (mkF m 28 #[.val (.int p0_0), .val (.int p0_1), .val (.int p0_2), .val (.int (0 : Int32)), .val (.ref w0_NORTH), .val (.int (bI ((p0_1 &&& (1 : Int32)) = (0 : Int32)))), .unset] [(.int p0_2)])) _
      refine XS.iloadN X3.here hx rfl (hb hby at_28) rfl ?_
      show Steps p.tables e below (T3.setTop (mkF m 29 #[.val (.int p0_0), .val (.int p0_1), .val (.int p0_2), .val (.int (0 : Int32)), .val (.ref w0_NORTH), .val (.int (bI ((p0_1 &&& (1 : Int32)) = (0 : Int32)))), .unset] [(.int (0 : Int32)), (.int p0_2)])) _
      refine XS.iload X3.here hx rfl (hb hby at_29) rfl ?_
      show Steps p.tables e below (T3.setTop (mkF m 31 #[.val (.int p0_0), .val (.int p0_1), .val (.int p0_2), .val (.int (0 : Int32)), .val (.ref w0_NORTH), .val (.int (bI ((p0_1 &&& (1 : Int32)) = (0 : Int32)))), .unset] [(.int (bI ((p0_1 &&& (1 : Int32)) = (0 : Int32)))), (.int (0 : Int32)), (.int p0_2)])) _
      refine st11 _ ?_
      exact k)
    obtain ⟨cq14, kq14, q14a, q14b, q14c⟩ := isOf hZ e11 EE_NORTH
    obtain ⟨_, _, ⟨T14, L14, k14, n14⟩, -, X14, ⟨Lc14, hQ14, l14, y14, z14⟩, st14⟩ := X11.virtualBack hx (y := (⟨"com/example/shieldwall/shieldwall/model/Direction", "rowFrom", "(II)I"⟩ : MethodName)) (z := (⟨"com/example/shieldwall/shieldwall/model/Direction", "rowFrom", "(II)I"⟩ : MethodName)) hown (mvT hZ (hVV 11 _ rfl)) (mvT hZ (hVV 12 _ rfl)) (notFace_of_selects (args := #[]) (mvT hZ (hVV 14 _ rfl))) (mvT hZ (hVV 14 _ rfl)) (mvT hZ (hVV 13 _ rfl)) (by decide) (backOf (W := 0) (rm3 l Z a0 hw [] w0_NORTH p0_1 p0_2 (-1 : Int32) (-1 : Int32) h0 n0 Z0 FF_NORTH_rowStepFromEven FF_NORTH_rowStepFromOdd) hZ (hVV 15 _ rfl) (hVV 6 _ rfl) (by decide) (by decide)) q14a q14c (g := (mkF m 41 #[.val (.int p0_0), .val (.int p0_1), .val (.int p0_2), .val (.int (0 : Int32)), .val (.ref w0_NORTH), .val (.int (bI ((p0_1 &&& (1 : Int32)) = (0 : Int32)))), .val (.int (p0_2 + (-1 : Int32)))] [(.int p0_2), (.int p0_1), (.ref w0_NORTH)])) rfl (by rw [hml]; rfl) (Steps.refl _) (argsL := [(.int p0_1), (.int p0_2)]) (rest := []) (lenOf pd_2 rfl) rfl (by show 2 * 0 + _ ≤ _; exact Nat.le_of_eq rfl) (hb hby at_41) (fun _ _ => ⟨rfl, e11, (by decide : 0 + 0 ≤ _), (by decide : 0 + 0 ≤ _)⟩)
    dsimp only [Pt.U, Pt.locs, Pt.cells, Pt.slots] at X14 l14 y14 z14 st14 hQ14
    subst l14 y14 z14
    obtain ⟨rfl, N14q, e14⟩ := hQ14
    have N15 := Fr.app N12 N14q
    have pre16 : ∀ t, Steps p.tables e below (T14.setTop (mkF m 44 #[.val (.int p0_0), .val (.int p0_1), .val (.int p0_2), .val (.int (0 : Int32)), .val (.ref w0_NORTH), .val (.int (bI ((p0_1 &&& (1 : Int32)) = (0 : Int32)))), .val (.int (p0_2 + (-1 : Int32)))] [(.int (if (p0_1 - (p0_1 / (2 : Int32)) * (2 : Int32)) = (0 : Int32) then (p0_2 + (-1 : Int32)) else (p0_2 + (-1 : Int32))))])) t → Steps p.tables e below (s₁.setTop (entryFrame m #[(.int p0_0), (.int p0_1), (.int p0_2)] maxLocals)) t := fun t k => pre13 t (by
      show Steps p.tables e below (T11.setTop (mkF m 34 #[.val (.int p0_0), .val (.int p0_1), .val (.int p0_2), .val (.int (0 : Int32)), .val (.ref w0_NORTH), .val (.int (bI ((p0_1 &&& (1 : Int32)) = (0 : Int32)))), .unset] [(.int (-1 : Int32)), (.int p0_2)])) _
      refine XS.iadd X11.here hx rfl (hb hby at_34) rfl ?_
      show Steps p.tables e below (T11.setTop (mkF m 35 #[.val (.int p0_0), .val (.int p0_1), .val (.int p0_2), .val (.int (0 : Int32)), .val (.ref w0_NORTH), .val (.int (bI ((p0_1 &&& (1 : Int32)) = (0 : Int32)))), .unset] [(.int (p0_2 + (-1 : Int32)))])) _
      refine XS.istore X11.here hx rfl (hb hby at_35) rfl (l' := #[.val (.int p0_0), .val (.int p0_1), .val (.int p0_2), .val (.int (0 : Int32)), .val (.ref w0_NORTH), .val (.int (bI ((p0_1 &&& (1 : Int32)) = (0 : Int32)))), .val (.int (p0_2 + (-1 : Int32)))]) rfl ?_
      show Steps p.tables e below (T11.setTop (mkF m 37 #[.val (.int p0_0), .val (.int p0_1), .val (.int p0_2), .val (.int (0 : Int32)), .val (.ref w0_NORTH), .val (.int (bI ((p0_1 &&& (1 : Int32)) = (0 : Int32)))), .val (.int (p0_2 + (-1 : Int32)))] [])) _
      refine XS.aload X11.here hx rfl (hb hby at_37) rfl rfl ?_
      show Steps p.tables e below (T11.setTop (mkF m 39 #[.val (.int p0_0), .val (.int p0_1), .val (.int p0_2), .val (.int (0 : Int32)), .val (.ref w0_NORTH), .val (.int (bI ((p0_1 &&& (1 : Int32)) = (0 : Int32)))), .val (.int (p0_2 + (-1 : Int32)))] [(.ref w0_NORTH)])) _
      refine XS.iloadN X11.here hx rfl (hb hby at_39) rfl ?_
      show Steps p.tables e below (T11.setTop (mkF m 40 #[.val (.int p0_0), .val (.int p0_1), .val (.int p0_2), .val (.int (0 : Int32)), .val (.ref w0_NORTH), .val (.int (bI ((p0_1 &&& (1 : Int32)) = (0 : Int32)))), .val (.int (p0_2 + (-1 : Int32)))] [(.int p0_1), (.ref w0_NORTH)])) _
      refine XS.iloadN X11.here hx rfl (hb hby at_40) rfl ?_
      show Steps p.tables e below (T11.setTop (mkF m 41 #[.val (.int p0_0), .val (.int p0_1), .val (.int p0_2), .val (.int (0 : Int32)), .val (.ref w0_NORTH), .val (.int (bI ((p0_1 &&& (1 : Int32)) = (0 : Int32)))), .val (.int (p0_2 + (-1 : Int32)))] [(.int p0_2), (.int p0_1), (.ref w0_NORTH)])) _
      refine st14.trans ?_
      exact k)
    have hd17 : (if (p0_1 - (p0_1 / (2 : Int32)) * (2 : Int32)) = (0 : Int32) then (p0_2 + (-1 : Int32)) else (p0_2 + (-1 : Int32))) = (p0_2 + (-1 : Int32)) := by
      split <;> rfl
    obtain ⟨fs, hr, hrun, hended, hW, hsame⟩ := X14.leave (v := some (.int (1 : Int32))) (fun h => by rw [Bd.returns] at h; cases h)
    refine ⟨_, _, pre16 _ ?_, hrun, hended, _, _, rfl, ?_, ⟨_, rfl⟩, hW, hsame.mono (by decide) (by decide)⟩
    · show Steps p.tables e below (T14.setTop (mkF m 44 #[.val (.int p0_0), .val (.int p0_1), .val (.int p0_2), .val (.int (0 : Int32)), .val (.ref w0_NORTH), .val (.int (bI ((p0_1 &&& (1 : Int32)) = (0 : Int32)))), .val (.int (p0_2 + (-1 : Int32)))] [(.int (if (p0_1 - (p0_1 / (2 : Int32)) * (2 : Int32)) = (0 : Int32) then (p0_2 + (-1 : Int32)) else (p0_2 + (-1 : Int32))))])) _
      refine XS.iload X14.here hx rfl (hb hby at_44) rfl ?_
      show Steps p.tables e below (T14.setTop (mkF m 46 #[.val (.int p0_0), .val (.int p0_1), .val (.int p0_2), .val (.int (0 : Int32)), .val (.ref w0_NORTH), .val (.int (bI ((p0_1 &&& (1 : Int32)) = (0 : Int32)))), .val (.int (p0_2 + (-1 : Int32)))] [(.int (p0_2 + (-1 : Int32))), (.int (if (p0_1 - (p0_1 / (2 : Int32)) * (2 : Int32)) = (0 : Int32) then (p0_2 + (-1 : Int32)) else (p0_2 + (-1 : Int32))))])) _
      refine XS.icmpNo X14.here hx rfl (hb hby at_46) rfl (teq hd17).2 ?_
      show Steps p.tables e below (T14.setTop (mkF m 49 #[.val (.int p0_0), .val (.int p0_1), .val (.int p0_2), .val (.int (0 : Int32)), .val (.ref w0_NORTH), .val (.int (bI ((p0_1 &&& (1 : Int32)) = (0 : Int32)))), .val (.int (p0_2 + (-1 : Int32)))] [])) _
      refine XS.iconst X14.here hx rfl (hb hby at_49) ?_
      show Steps p.tables e below (T14.setTop (mkF m 50 #[.val (.int p0_0), .val (.int p0_1), .val (.int p0_2), .val (.int (0 : Int32)), .val (.ref w0_NORTH), .val (.int (bI ((p0_1 &&& (1 : Int32)) = (0 : Int32)))), .val (.int (p0_2 + (-1 : Int32)))] [(.int (1 : Int32))])) _
      refine XS.goto X14.here hx rfl (pc0 := 50) (pc' := 54) rfl (hb hby at_50) (by decide) (by decide) ?_
      show Steps p.tables e below (T14.setTop (mkF m 54 #[.val (.int p0_0), .val (.int p0_1), .val (.int p0_2), .val (.int (0 : Int32)), .val (.ref w0_NORTH), .val (.int (bI ((p0_1 &&& (1 : Int32)) = (0 : Int32)))), .val (.int (p0_2 + (-1 : Int32)))] [(.int (1 : Int32))])) _
      exact retN X14 hx (t := .boolean) Bd.returns (by simp) (hb hby at_54) hr
    · show Q0 Z p0_0 p0_1 p0_2 w0_NORTH w0_NORTH_EAST w0_SOUTH_EAST w0_SOUTH w0_SOUTH_WEST w0_NORTH_WEST h0 n0 _ T14.heap _
      rw [e14]
      exact ⟨rfl, N15⟩
  · have pre18 : ∀ t, Steps p.tables e below (s₁.setTop (mkF m 8 #[.val (.int p0_0), .val (.int p0_1), .val (.int p0_2), .val (.int (1 : Int32)), .unset, .unset, .unset] [])) t → Steps p.tables e below (s₁.setTop (entryFrame m #[(.int p0_0), (.int p0_1), (.int p0_2)] maxLocals)) t := fun t k => pre1 t (castTop (by rw [hk]) k)
    obtain ⟨_, _, ⟨T19, L19, k19, n19⟩, -, X19, ⟨Lc19, hQ19, l19, y19, z19⟩, st19⟩ := Jvm.LawKit.callS X0 hx (y := (⟨"com/example/shieldwall/shieldwall/model/DirectionRowFromPinLaw", "pick", "(I)Lcom/example/shieldwall/shieldwall/model/Direction;"⟩ : MethodName)) hown (mvT hZ (hVV 1 _ rfl)) (mvT hZ (hVV 2 _ rfl)) (mvT hZ (hVV 3 _ rfl)) (mvT hZ (hVV 4 _ rfl)) (by decide) (backOf (W := 0) (rm1_1 l Z a0 hw [] w0_NORTH_EAST h0 n0 Z0 O0 S_NORTH_EAST) hZ (hVV 4 _ rfl) (hVV 3 _ rfl) (by decide) (by decide)) (g := (mkF m 9 #[.val (.int p0_0), .val (.int p0_1), .val (.int p0_2), .val (.int (1 : Int32)), .unset, .unset, .unset] [(.int (1 : Int32))])) rfl (by rw [hml]; rfl) (argsL := [(.int (1 : Int32))]) (rest := []) (lenOf pd_0 rfl) rfl (by show 2 * 0 + _ ≤ _; exact Nat.le_of_eq rfl) (hb hby at_9) (fun _ _ => ⟨rfl, e0, (by decide : 0 + 0 ≤ _), (by decide : 0 + 0 ≤ _)⟩)
    dsimp only [Pt.U, Pt.locs, Pt.cells, Pt.slots] at X19 l19 y19 z19 st19 hQ19
    subst l19 y19 z19
    obtain ⟨rfl, N19q, e19⟩ := hQ19
    have N20 := Fr.app N0 N19q
    have pre21 : ∀ t, Steps p.tables e below (T19.setTop (mkF m 12 #[.val (.int p0_0), .val (.int p0_1), .val (.int p0_2), .val (.int (1 : Int32)), .unset, .unset, .unset] [(.ref w0_NORTH_EAST)])) t → Steps p.tables e below (s₁.setTop (entryFrame m #[(.int p0_0), (.int p0_1), (.int p0_2)] maxLocals)) t := fun t k => pre18 t (by
      show Steps p.tables e below (s₁.setTop (mkF m 8 #[.val (.int p0_0), .val (.int p0_1), .val (.int p0_2), .val (.int (1 : Int32)), .unset, .unset, .unset] [])) _
      refine XS.iloadN X0.here hx rfl (hb hby at_8) rfl ?_
      show Steps p.tables e below (s₁.setTop (mkF m 9 #[.val (.int p0_0), .val (.int p0_1), .val (.int p0_2), .val (.int (1 : Int32)), .unset, .unset, .unset] [(.int (1 : Int32))])) _
      refine st19 _ ?_
      exact k)
    have pre23 : ∀ t, Steps p.tables e below (T19.setTop (mkF m 17 #[.val (.int p0_0), .val (.int p0_1), .val (.int p0_2), .val (.int (1 : Int32)), .val (.ref w0_NORTH_EAST), .unset, .unset] [(.int (p0_1 &&& (1 : Int32)))])) t → Steps p.tables e below (s₁.setTop (entryFrame m #[(.int p0_0), (.int p0_1), (.int p0_2)] maxLocals)) t := fun t k => pre21 t (by
      show Steps p.tables e below (T19.setTop (mkF m 12 #[.val (.int p0_0), .val (.int p0_1), .val (.int p0_2), .val (.int (1 : Int32)), .unset, .unset, .unset] [(.ref w0_NORTH_EAST)])) _
      refine XS.astore X19.here hx rfl (hb hby at_12) rfl rfl (l' := #[.val (.int p0_0), .val (.int p0_1), .val (.int p0_2), .val (.int (1 : Int32)), .val (.ref w0_NORTH_EAST), .unset, .unset]) rfl ?_
      show Steps p.tables e below (T19.setTop (mkF m 14 #[.val (.int p0_0), .val (.int p0_1), .val (.int p0_2), .val (.int (1 : Int32)), .val (.ref w0_NORTH_EAST), .unset, .unset] [])) _
      refine XS.iloadN X19.here hx rfl (hb hby at_14) rfl ?_
      show Steps p.tables e below (T19.setTop (mkF m 15 #[.val (.int p0_0), .val (.int p0_1), .val (.int p0_2), .val (.int (1 : Int32)), .val (.ref w0_NORTH_EAST), .unset, .unset] [(.int p0_1)])) _
      refine XS.iconst X19.here hx rfl (hb hby at_15) ?_
      show Steps p.tables e below (T19.setTop (mkF m 16 #[.val (.int p0_0), .val (.int p0_1), .val (.int p0_2), .val (.int (1 : Int32)), .val (.ref w0_NORTH_EAST), .unset, .unset] [(.int (1 : Int32)), (.int p0_1)])) _
      refine XS.iand X19.here hx rfl (hb hby at_16) rfl ?_
      exact k)
    have pre24 : ∀ t, Steps p.tables e below (T19.setTop (mkF m 25 #[.val (.int p0_0), .val (.int p0_1), .val (.int p0_2), .val (.int (1 : Int32)), .val (.ref w0_NORTH_EAST), .unset, .unset] [(.int (bI ((p0_1 &&& (1 : Int32)) = (0 : Int32))))])) t → Steps p.tables e below (s₁.setTop (entryFrame m #[(.int p0_0), (.int p0_1), (.int p0_2)] maxLocals)) t := fun t k => pre23 t (by
      by_cases hc22 : (p0_1 &&& (1 : Int32)) = (0 : Int32)
      · show Steps p.tables e below (T19.setTop (mkF m 17 #[.val (.int p0_0), .val (.int p0_1), .val (.int p0_2), .val (.int (1 : Int32)), .val (.ref w0_NORTH_EAST), .unset, .unset] [(.int (p0_1 &&& (1 : Int32)))])) _
        refine XS.ifNo X19.here hx rfl (hb hby at_17) rfl ((if0 _ _).trans (teq hc22).2) ?_
        show Steps p.tables e below (T19.setTop (mkF m 20 #[.val (.int p0_0), .val (.int p0_1), .val (.int p0_2), .val (.int (1 : Int32)), .val (.ref w0_NORTH_EAST), .unset, .unset] [])) _
        refine XS.iconst X19.here hx rfl (hb hby at_20) ?_
        show Steps p.tables e below (T19.setTop (mkF m 21 #[.val (.int p0_0), .val (.int p0_1), .val (.int p0_2), .val (.int (1 : Int32)), .val (.ref w0_NORTH_EAST), .unset, .unset] [(.int (1 : Int32))])) _
        refine XS.goto X19.here hx rfl (pc0 := 21) (pc' := 25) rfl (hb hby at_21) (by decide) (by decide) ?_
        have q25 : (bI ((p0_1 &&& (1 : Int32)) = (0 : Int32))) = (1 : Int32) := (bI_t hc22)
        exact castTop (g := (mkF m 25 #[.val (.int p0_0), .val (.int p0_1), .val (.int p0_2), .val (.int (1 : Int32)), .val (.ref w0_NORTH_EAST), .unset, .unset] [(.int (1 : Int32))])) (g' := (mkF m 25 #[.val (.int p0_0), .val (.int p0_1), .val (.int p0_2), .val (.int (1 : Int32)), .val (.ref w0_NORTH_EAST), .unset, .unset] [(.int (bI ((p0_1 &&& (1 : Int32)) = (0 : Int32))))])) (by simp only [q25]) k
      · show Steps p.tables e below (T19.setTop (mkF m 17 #[.val (.int p0_0), .val (.int p0_1), .val (.int p0_2), .val (.int (1 : Int32)), .val (.ref w0_NORTH_EAST), .unset, .unset] [(.int (p0_1 &&& (1 : Int32)))])) _
        refine XS.ifYes X19.here hx rfl (pc0 := 17) (pc' := 24) rfl (hb hby at_17) rfl ((if0 _ _).trans (feq hc22).2) (by decide) (by decide) ?_
        show Steps p.tables e below (T19.setTop (mkF m 24 #[.val (.int p0_0), .val (.int p0_1), .val (.int p0_2), .val (.int (1 : Int32)), .val (.ref w0_NORTH_EAST), .unset, .unset] [])) _
        refine XS.iconst X19.here hx rfl (hb hby at_24) ?_
        have q26 : (bI ((p0_1 &&& (1 : Int32)) = (0 : Int32))) = (0 : Int32) := (bI_f hc22)
        exact castTop (g := (mkF m 25 #[.val (.int p0_0), .val (.int p0_1), .val (.int p0_2), .val (.int (1 : Int32)), .val (.ref w0_NORTH_EAST), .unset, .unset] [(.int (0 : Int32))])) (g' := (mkF m 25 #[.val (.int p0_0), .val (.int p0_1), .val (.int p0_2), .val (.int (1 : Int32)), .val (.ref w0_NORTH_EAST), .unset, .unset] [(.int (bI ((p0_1 &&& (1 : Int32)) = (0 : Int32))))])) (by simp only [q26]) k)
    obtain ⟨_, _, ⟨T27, L27, k27, n27⟩, -, X27, ⟨Lc27, hQ27, l27, y27, z27⟩, st27⟩ := Jvm.LawKit.callS X19 hx (y := (⟨"com/example/shieldwall/shieldwall/model/DirectionRowFromPinLaw", "expectedStep", "(IZ)I"⟩ : MethodName)) hown (mvT hZ (hVV 8 _ rfl)) (mvT hZ (hVV 9 _ rfl)) (mvT hZ (hVV 3 _ rfl)) (mvT hZ (hVV 10 _ rfl)) (by decide) (backOf (W := 1) (rm2_1 l Z a0 hw [] (bI ((p0_1 &&& (1 : Int32)) = (0 : Int32))) h0 n0 Z0 ) hZ (hVV 10 _ rfl) (hVV 3 _ rfl) (by decide) (by decide)) (g := (mkF m 31 #[.val (.int p0_0), .val (.int p0_1), .val (.int p0_2), .val (.int (1 : Int32)), .val (.ref w0_NORTH_EAST), .val (.int (bI ((p0_1 &&& (1 : Int32)) = (0 : Int32)))), .unset] [(.int (bI ((p0_1 &&& (1 : Int32)) = (0 : Int32)))), (.int (1 : Int32)), (.int p0_2)])) rfl (by rw [hml]; rfl) (argsL := [(.int (1 : Int32)), (.int (bI ((p0_1 &&& (1 : Int32)) = (0 : Int32))))]) (rest := [(.int p0_2)]) (lenOf pd_1 rfl) rfl (by show 2 * 0 + _ ≤ _; exact Nat.le_of_eq rfl) (hb hby at_31) (fun _ _ => ⟨rfl, e19, (by decide : 0 + 0 ≤ _), (by decide : 0 + 0 ≤ _)⟩)
    dsimp only [Pt.U, Pt.locs, Pt.cells, Pt.slots] at X27 l27 y27 z27 st27 hQ27
    subst l27 y27 z27
    obtain ⟨rfl, N27q, e27⟩ := hQ27
    have N28 := Fr.app N20 N27q
    have pre29 : ∀ t, Steps p.tables e below (T27.setTop (mkF m 34 #[.val (.int p0_0), .val (.int p0_1), .val (.int p0_2), .val (.int (1 : Int32)), .val (.ref w0_NORTH_EAST), .val (.int (bI ((p0_1 &&& (1 : Int32)) = (0 : Int32)))), .unset] [(.int (if (bI ((p0_1 &&& (1 : Int32)) = (0 : Int32))) = (0 : Int32) then (-1 : Int32) else (0 : Int32))), (.int p0_2)])) t → Steps p.tables e below (s₁.setTop (entryFrame m #[(.int p0_0), (.int p0_1), (.int p0_2)] maxLocals)) t := fun t k => pre24 t (by
      show Steps p.tables e below (T19.setTop (mkF m 25 #[.val (.int p0_0), .val (.int p0_1), .val (.int p0_2), .val (.int (1 : Int32)), .val (.ref w0_NORTH_EAST), .unset, .unset] [(.int (bI ((p0_1 &&& (1 : Int32)) = (0 : Int32))))])) _
      refine XS.istore X19.here hx rfl (hb hby at_25) rfl (l' := #[.val (.int p0_0), .val (.int p0_1), .val (.int p0_2), .val (.int (1 : Int32)), .val (.ref w0_NORTH_EAST), .val (.int (bI ((p0_1 &&& (1 : Int32)) = (0 : Int32)))), .unset]) rfl ?_
      show Steps p.tables e below (T19.setTop (mkF m 27 #[.val (.int p0_0), .val (.int p0_1), .val (.int p0_2), .val (.int (1 : Int32)), .val (.ref w0_NORTH_EAST), .val (.int (bI ((p0_1 &&& (1 : Int32)) = (0 : Int32)))), .unset] [])) _
      refine XS.iloadN X19.here hx rfl (hb hby at_27) rfl ?_
      show Steps p.tables e below (T19.setTop (mkF m 28 #[.val (.int p0_0), .val (.int p0_1), .val (.int p0_2), .val (.int (1 : Int32)), .val (.ref w0_NORTH_EAST), .val (.int (bI ((p0_1 &&& (1 : Int32)) = (0 : Int32)))), .unset] [(.int p0_2)])) _
      refine XS.iloadN X19.here hx rfl (hb hby at_28) rfl ?_
      show Steps p.tables e below (T19.setTop (mkF m 29 #[.val (.int p0_0), .val (.int p0_1), .val (.int p0_2), .val (.int (1 : Int32)), .val (.ref w0_NORTH_EAST), .val (.int (bI ((p0_1 &&& (1 : Int32)) = (0 : Int32)))), .unset] [(.int (1 : Int32)), (.int p0_2)])) _
      refine XS.iload X19.here hx rfl (hb hby at_29) rfl ?_
      show Steps p.tables e below (T19.setTop (mkF m 31 #[.val (.int p0_0), .val (.int p0_1), .val (.int p0_2), .val (.int (1 : Int32)), .val (.ref w0_NORTH_EAST), .val (.int (bI ((p0_1 &&& (1 : Int32)) = (0 : Int32)))), .unset] [(.int (bI ((p0_1 &&& (1 : Int32)) = (0 : Int32)))), (.int (1 : Int32)), (.int p0_2)])) _
      refine st27 _ ?_
      exact k)
    obtain ⟨cq30, kq30, q30a, q30b, q30c⟩ := isOf hZ e27 EE_NORTH_EAST
    obtain ⟨_, _, ⟨T30, L30, k30, n30⟩, -, X30, ⟨Lc30, hQ30, l30, y30, z30⟩, st30⟩ := X27.virtualBack hx (y := (⟨"com/example/shieldwall/shieldwall/model/Direction", "rowFrom", "(II)I"⟩ : MethodName)) (z := (⟨"com/example/shieldwall/shieldwall/model/Direction", "rowFrom", "(II)I"⟩ : MethodName)) hown (mvT hZ (hVV 11 _ rfl)) (mvT hZ (hVV 12 _ rfl)) (notFace_of_selects (args := #[]) (mvT hZ (hVV 14 _ rfl))) (mvT hZ (hVV 14 _ rfl)) (mvT hZ (hVV 13 _ rfl)) (by decide) (backOf (W := 0) (rm3 l Z a0 hw [] w0_NORTH_EAST p0_1 p0_2 (0 : Int32) (-1 : Int32) h0 n0 Z0 FF_NORTH_EAST_rowStepFromEven FF_NORTH_EAST_rowStepFromOdd) hZ (hVV 15 _ rfl) (hVV 6 _ rfl) (by decide) (by decide)) q30a q30c (g := (mkF m 41 #[.val (.int p0_0), .val (.int p0_1), .val (.int p0_2), .val (.int (1 : Int32)), .val (.ref w0_NORTH_EAST), .val (.int (bI ((p0_1 &&& (1 : Int32)) = (0 : Int32)))), .val (.int (p0_2 + (if (bI ((p0_1 &&& (1 : Int32)) = (0 : Int32))) = (0 : Int32) then (-1 : Int32) else (0 : Int32))))] [(.int p0_2), (.int p0_1), (.ref w0_NORTH_EAST)])) rfl (by rw [hml]; rfl) (Steps.refl _) (argsL := [(.int p0_1), (.int p0_2)]) (rest := []) (lenOf pd_2 rfl) rfl (by show 2 * 0 + _ ≤ _; exact Nat.le_of_eq rfl) (hb hby at_41) (fun _ _ => ⟨rfl, e27, (by decide : 0 + 0 ≤ _), (by decide : 0 + 0 ≤ _)⟩)
    dsimp only [Pt.U, Pt.locs, Pt.cells, Pt.slots] at X30 l30 y30 z30 st30 hQ30
    subst l30 y30 z30
    obtain ⟨rfl, N30q, e30⟩ := hQ30
    have N31 := Fr.app N28 N30q
    have pre32 : ∀ t, Steps p.tables e below (T30.setTop (mkF m 44 #[.val (.int p0_0), .val (.int p0_1), .val (.int p0_2), .val (.int (1 : Int32)), .val (.ref w0_NORTH_EAST), .val (.int (bI ((p0_1 &&& (1 : Int32)) = (0 : Int32)))), .val (.int (p0_2 + (if (bI ((p0_1 &&& (1 : Int32)) = (0 : Int32))) = (0 : Int32) then (-1 : Int32) else (0 : Int32))))] [(.int (if (p0_1 - (p0_1 / (2 : Int32)) * (2 : Int32)) = (0 : Int32) then (p0_2 + (0 : Int32)) else (p0_2 + (-1 : Int32))))])) t → Steps p.tables e below (s₁.setTop (entryFrame m #[(.int p0_0), (.int p0_1), (.int p0_2)] maxLocals)) t := fun t k => pre29 t (by
      show Steps p.tables e below (T27.setTop (mkF m 34 #[.val (.int p0_0), .val (.int p0_1), .val (.int p0_2), .val (.int (1 : Int32)), .val (.ref w0_NORTH_EAST), .val (.int (bI ((p0_1 &&& (1 : Int32)) = (0 : Int32)))), .unset] [(.int (if (bI ((p0_1 &&& (1 : Int32)) = (0 : Int32))) = (0 : Int32) then (-1 : Int32) else (0 : Int32))), (.int p0_2)])) _
      refine XS.iadd X27.here hx rfl (hb hby at_34) rfl ?_
      show Steps p.tables e below (T27.setTop (mkF m 35 #[.val (.int p0_0), .val (.int p0_1), .val (.int p0_2), .val (.int (1 : Int32)), .val (.ref w0_NORTH_EAST), .val (.int (bI ((p0_1 &&& (1 : Int32)) = (0 : Int32)))), .unset] [(.int (p0_2 + (if (bI ((p0_1 &&& (1 : Int32)) = (0 : Int32))) = (0 : Int32) then (-1 : Int32) else (0 : Int32))))])) _
      refine XS.istore X27.here hx rfl (hb hby at_35) rfl (l' := #[.val (.int p0_0), .val (.int p0_1), .val (.int p0_2), .val (.int (1 : Int32)), .val (.ref w0_NORTH_EAST), .val (.int (bI ((p0_1 &&& (1 : Int32)) = (0 : Int32)))), .val (.int (p0_2 + (if (bI ((p0_1 &&& (1 : Int32)) = (0 : Int32))) = (0 : Int32) then (-1 : Int32) else (0 : Int32))))]) rfl ?_
      show Steps p.tables e below (T27.setTop (mkF m 37 #[.val (.int p0_0), .val (.int p0_1), .val (.int p0_2), .val (.int (1 : Int32)), .val (.ref w0_NORTH_EAST), .val (.int (bI ((p0_1 &&& (1 : Int32)) = (0 : Int32)))), .val (.int (p0_2 + (if (bI ((p0_1 &&& (1 : Int32)) = (0 : Int32))) = (0 : Int32) then (-1 : Int32) else (0 : Int32))))] [])) _
      refine XS.aload X27.here hx rfl (hb hby at_37) rfl rfl ?_
      show Steps p.tables e below (T27.setTop (mkF m 39 #[.val (.int p0_0), .val (.int p0_1), .val (.int p0_2), .val (.int (1 : Int32)), .val (.ref w0_NORTH_EAST), .val (.int (bI ((p0_1 &&& (1 : Int32)) = (0 : Int32)))), .val (.int (p0_2 + (if (bI ((p0_1 &&& (1 : Int32)) = (0 : Int32))) = (0 : Int32) then (-1 : Int32) else (0 : Int32))))] [(.ref w0_NORTH_EAST)])) _
      refine XS.iloadN X27.here hx rfl (hb hby at_39) rfl ?_
      show Steps p.tables e below (T27.setTop (mkF m 40 #[.val (.int p0_0), .val (.int p0_1), .val (.int p0_2), .val (.int (1 : Int32)), .val (.ref w0_NORTH_EAST), .val (.int (bI ((p0_1 &&& (1 : Int32)) = (0 : Int32)))), .val (.int (p0_2 + (if (bI ((p0_1 &&& (1 : Int32)) = (0 : Int32))) = (0 : Int32) then (-1 : Int32) else (0 : Int32))))] [(.int p0_1), (.ref w0_NORTH_EAST)])) _
      refine XS.iloadN X27.here hx rfl (hb hby at_40) rfl ?_
      show Steps p.tables e below (T27.setTop (mkF m 41 #[.val (.int p0_0), .val (.int p0_1), .val (.int p0_2), .val (.int (1 : Int32)), .val (.ref w0_NORTH_EAST), .val (.int (bI ((p0_1 &&& (1 : Int32)) = (0 : Int32)))), .val (.int (p0_2 + (if (bI ((p0_1 &&& (1 : Int32)) = (0 : Int32))) = (0 : Int32) then (-1 : Int32) else (0 : Int32))))] [(.int p0_2), (.int p0_1), (.ref w0_NORTH_EAST)])) _
      refine st30.trans ?_
      exact k)
    have hd33 : (if (p0_1 - (p0_1 / (2 : Int32)) * (2 : Int32)) = (0 : Int32) then (p0_2 + (0 : Int32)) else (p0_2 + (-1 : Int32))) = (p0_2 + (if (bI ((p0_1 &&& (1 : Int32)) = (0 : Int32))) = (0 : Int32) then (-1 : Int32) else (0 : Int32))) := by
      exact own_finA _ _
    obtain ⟨fs, hr, hrun, hended, hW, hsame⟩ := X30.leave (v := some (.int (1 : Int32))) (fun h => by rw [Bd.returns] at h; cases h)
    refine ⟨_, _, pre32 _ ?_, hrun, hended, _, _, rfl, ?_, ⟨_, rfl⟩, hW, hsame.mono (by decide) (by decide)⟩
    · show Steps p.tables e below (T30.setTop (mkF m 44 #[.val (.int p0_0), .val (.int p0_1), .val (.int p0_2), .val (.int (1 : Int32)), .val (.ref w0_NORTH_EAST), .val (.int (bI ((p0_1 &&& (1 : Int32)) = (0 : Int32)))), .val (.int (p0_2 + (if (bI ((p0_1 &&& (1 : Int32)) = (0 : Int32))) = (0 : Int32) then (-1 : Int32) else (0 : Int32))))] [(.int (if (p0_1 - (p0_1 / (2 : Int32)) * (2 : Int32)) = (0 : Int32) then (p0_2 + (0 : Int32)) else (p0_2 + (-1 : Int32))))])) _
      refine XS.iload X30.here hx rfl (hb hby at_44) rfl ?_
      show Steps p.tables e below (T30.setTop (mkF m 46 #[.val (.int p0_0), .val (.int p0_1), .val (.int p0_2), .val (.int (1 : Int32)), .val (.ref w0_NORTH_EAST), .val (.int (bI ((p0_1 &&& (1 : Int32)) = (0 : Int32)))), .val (.int (p0_2 + (if (bI ((p0_1 &&& (1 : Int32)) = (0 : Int32))) = (0 : Int32) then (-1 : Int32) else (0 : Int32))))] [(.int (p0_2 + (if (bI ((p0_1 &&& (1 : Int32)) = (0 : Int32))) = (0 : Int32) then (-1 : Int32) else (0 : Int32)))), (.int (if (p0_1 - (p0_1 / (2 : Int32)) * (2 : Int32)) = (0 : Int32) then (p0_2 + (0 : Int32)) else (p0_2 + (-1 : Int32))))])) _
      refine XS.icmpNo X30.here hx rfl (hb hby at_46) rfl (teq hd33).2 ?_
      show Steps p.tables e below (T30.setTop (mkF m 49 #[.val (.int p0_0), .val (.int p0_1), .val (.int p0_2), .val (.int (1 : Int32)), .val (.ref w0_NORTH_EAST), .val (.int (bI ((p0_1 &&& (1 : Int32)) = (0 : Int32)))), .val (.int (p0_2 + (if (bI ((p0_1 &&& (1 : Int32)) = (0 : Int32))) = (0 : Int32) then (-1 : Int32) else (0 : Int32))))] [])) _
      refine XS.iconst X30.here hx rfl (hb hby at_49) ?_
      show Steps p.tables e below (T30.setTop (mkF m 50 #[.val (.int p0_0), .val (.int p0_1), .val (.int p0_2), .val (.int (1 : Int32)), .val (.ref w0_NORTH_EAST), .val (.int (bI ((p0_1 &&& (1 : Int32)) = (0 : Int32)))), .val (.int (p0_2 + (if (bI ((p0_1 &&& (1 : Int32)) = (0 : Int32))) = (0 : Int32) then (-1 : Int32) else (0 : Int32))))] [(.int (1 : Int32))])) _
      refine XS.goto X30.here hx rfl (pc0 := 50) (pc' := 54) rfl (hb hby at_50) (by decide) (by decide) ?_
      show Steps p.tables e below (T30.setTop (mkF m 54 #[.val (.int p0_0), .val (.int p0_1), .val (.int p0_2), .val (.int (1 : Int32)), .val (.ref w0_NORTH_EAST), .val (.int (bI ((p0_1 &&& (1 : Int32)) = (0 : Int32)))), .val (.int (p0_2 + (if (bI ((p0_1 &&& (1 : Int32)) = (0 : Int32))) = (0 : Int32) then (-1 : Int32) else (0 : Int32))))] [(.int (1 : Int32))])) _
      exact retN X30 hx (t := .boolean) Bd.returns (by simp) (hb hby at_54) hr
    · show Q0 Z p0_0 p0_1 p0_2 w0_NORTH w0_NORTH_EAST w0_SOUTH_EAST w0_SOUTH w0_SOUTH_WEST w0_NORTH_WEST h0 n0 _ T30.heap _
      rw [e30]
      exact ⟨rfl, N31⟩
  · have pre34 : ∀ t, Steps p.tables e below (s₁.setTop (mkF m 8 #[.val (.int p0_0), .val (.int p0_1), .val (.int p0_2), .val (.int (2 : Int32)), .unset, .unset, .unset] [])) t → Steps p.tables e below (s₁.setTop (entryFrame m #[(.int p0_0), (.int p0_1), (.int p0_2)] maxLocals)) t := fun t k => pre1 t (castTop (by rw [hk]) k)
    obtain ⟨_, _, ⟨T35, L35, k35, n35⟩, -, X35, ⟨Lc35, hQ35, l35, y35, z35⟩, st35⟩ := Jvm.LawKit.callS X0 hx (y := (⟨"com/example/shieldwall/shieldwall/model/DirectionRowFromPinLaw", "pick", "(I)Lcom/example/shieldwall/shieldwall/model/Direction;"⟩ : MethodName)) hown (mvT hZ (hVV 1 _ rfl)) (mvT hZ (hVV 2 _ rfl)) (mvT hZ (hVV 3 _ rfl)) (mvT hZ (hVV 4 _ rfl)) (by decide) (backOf (W := 0) (rm1_2 l Z a0 hw [] w0_SOUTH_EAST h0 n0 Z0 O0 S_SOUTH_EAST) hZ (hVV 4 _ rfl) (hVV 3 _ rfl) (by decide) (by decide)) (g := (mkF m 9 #[.val (.int p0_0), .val (.int p0_1), .val (.int p0_2), .val (.int (2 : Int32)), .unset, .unset, .unset] [(.int (2 : Int32))])) rfl (by rw [hml]; rfl) (argsL := [(.int (2 : Int32))]) (rest := []) (lenOf pd_0 rfl) rfl (by show 2 * 0 + _ ≤ _; exact Nat.le_of_eq rfl) (hb hby at_9) (fun _ _ => ⟨rfl, e0, (by decide : 0 + 0 ≤ _), (by decide : 0 + 0 ≤ _)⟩)
    dsimp only [Pt.U, Pt.locs, Pt.cells, Pt.slots] at X35 l35 y35 z35 st35 hQ35
    subst l35 y35 z35
    obtain ⟨rfl, N35q, e35⟩ := hQ35
    have N36 := Fr.app N0 N35q
    have pre37 : ∀ t, Steps p.tables e below (T35.setTop (mkF m 12 #[.val (.int p0_0), .val (.int p0_1), .val (.int p0_2), .val (.int (2 : Int32)), .unset, .unset, .unset] [(.ref w0_SOUTH_EAST)])) t → Steps p.tables e below (s₁.setTop (entryFrame m #[(.int p0_0), (.int p0_1), (.int p0_2)] maxLocals)) t := fun t k => pre34 t (by
      show Steps p.tables e below (s₁.setTop (mkF m 8 #[.val (.int p0_0), .val (.int p0_1), .val (.int p0_2), .val (.int (2 : Int32)), .unset, .unset, .unset] [])) _
      refine XS.iloadN X0.here hx rfl (hb hby at_8) rfl ?_
      show Steps p.tables e below (s₁.setTop (mkF m 9 #[.val (.int p0_0), .val (.int p0_1), .val (.int p0_2), .val (.int (2 : Int32)), .unset, .unset, .unset] [(.int (2 : Int32))])) _
      refine st35 _ ?_
      exact k)
    have pre39 : ∀ t, Steps p.tables e below (T35.setTop (mkF m 17 #[.val (.int p0_0), .val (.int p0_1), .val (.int p0_2), .val (.int (2 : Int32)), .val (.ref w0_SOUTH_EAST), .unset, .unset] [(.int (p0_1 &&& (1 : Int32)))])) t → Steps p.tables e below (s₁.setTop (entryFrame m #[(.int p0_0), (.int p0_1), (.int p0_2)] maxLocals)) t := fun t k => pre37 t (by
      show Steps p.tables e below (T35.setTop (mkF m 12 #[.val (.int p0_0), .val (.int p0_1), .val (.int p0_2), .val (.int (2 : Int32)), .unset, .unset, .unset] [(.ref w0_SOUTH_EAST)])) _
      refine XS.astore X35.here hx rfl (hb hby at_12) rfl rfl (l' := #[.val (.int p0_0), .val (.int p0_1), .val (.int p0_2), .val (.int (2 : Int32)), .val (.ref w0_SOUTH_EAST), .unset, .unset]) rfl ?_
      show Steps p.tables e below (T35.setTop (mkF m 14 #[.val (.int p0_0), .val (.int p0_1), .val (.int p0_2), .val (.int (2 : Int32)), .val (.ref w0_SOUTH_EAST), .unset, .unset] [])) _
      refine XS.iloadN X35.here hx rfl (hb hby at_14) rfl ?_
      show Steps p.tables e below (T35.setTop (mkF m 15 #[.val (.int p0_0), .val (.int p0_1), .val (.int p0_2), .val (.int (2 : Int32)), .val (.ref w0_SOUTH_EAST), .unset, .unset] [(.int p0_1)])) _
      refine XS.iconst X35.here hx rfl (hb hby at_15) ?_
      show Steps p.tables e below (T35.setTop (mkF m 16 #[.val (.int p0_0), .val (.int p0_1), .val (.int p0_2), .val (.int (2 : Int32)), .val (.ref w0_SOUTH_EAST), .unset, .unset] [(.int (1 : Int32)), (.int p0_1)])) _
      refine XS.iand X35.here hx rfl (hb hby at_16) rfl ?_
      exact k)
    have pre40 : ∀ t, Steps p.tables e below (T35.setTop (mkF m 25 #[.val (.int p0_0), .val (.int p0_1), .val (.int p0_2), .val (.int (2 : Int32)), .val (.ref w0_SOUTH_EAST), .unset, .unset] [(.int (bI ((p0_1 &&& (1 : Int32)) = (0 : Int32))))])) t → Steps p.tables e below (s₁.setTop (entryFrame m #[(.int p0_0), (.int p0_1), (.int p0_2)] maxLocals)) t := fun t k => pre39 t (by
      by_cases hc38 : (p0_1 &&& (1 : Int32)) = (0 : Int32)
      · show Steps p.tables e below (T35.setTop (mkF m 17 #[.val (.int p0_0), .val (.int p0_1), .val (.int p0_2), .val (.int (2 : Int32)), .val (.ref w0_SOUTH_EAST), .unset, .unset] [(.int (p0_1 &&& (1 : Int32)))])) _
        refine XS.ifNo X35.here hx rfl (hb hby at_17) rfl ((if0 _ _).trans (teq hc38).2) ?_
        show Steps p.tables e below (T35.setTop (mkF m 20 #[.val (.int p0_0), .val (.int p0_1), .val (.int p0_2), .val (.int (2 : Int32)), .val (.ref w0_SOUTH_EAST), .unset, .unset] [])) _
        refine XS.iconst X35.here hx rfl (hb hby at_20) ?_
        show Steps p.tables e below (T35.setTop (mkF m 21 #[.val (.int p0_0), .val (.int p0_1), .val (.int p0_2), .val (.int (2 : Int32)), .val (.ref w0_SOUTH_EAST), .unset, .unset] [(.int (1 : Int32))])) _
        refine XS.goto X35.here hx rfl (pc0 := 21) (pc' := 25) rfl (hb hby at_21) (by decide) (by decide) ?_
        have q41 : (bI ((p0_1 &&& (1 : Int32)) = (0 : Int32))) = (1 : Int32) := (bI_t hc38)
        exact castTop (g := (mkF m 25 #[.val (.int p0_0), .val (.int p0_1), .val (.int p0_2), .val (.int (2 : Int32)), .val (.ref w0_SOUTH_EAST), .unset, .unset] [(.int (1 : Int32))])) (g' := (mkF m 25 #[.val (.int p0_0), .val (.int p0_1), .val (.int p0_2), .val (.int (2 : Int32)), .val (.ref w0_SOUTH_EAST), .unset, .unset] [(.int (bI ((p0_1 &&& (1 : Int32)) = (0 : Int32))))])) (by simp only [q41]) k
      · show Steps p.tables e below (T35.setTop (mkF m 17 #[.val (.int p0_0), .val (.int p0_1), .val (.int p0_2), .val (.int (2 : Int32)), .val (.ref w0_SOUTH_EAST), .unset, .unset] [(.int (p0_1 &&& (1 : Int32)))])) _
        refine XS.ifYes X35.here hx rfl (pc0 := 17) (pc' := 24) rfl (hb hby at_17) rfl ((if0 _ _).trans (feq hc38).2) (by decide) (by decide) ?_
        show Steps p.tables e below (T35.setTop (mkF m 24 #[.val (.int p0_0), .val (.int p0_1), .val (.int p0_2), .val (.int (2 : Int32)), .val (.ref w0_SOUTH_EAST), .unset, .unset] [])) _
        refine XS.iconst X35.here hx rfl (hb hby at_24) ?_
        have q42 : (bI ((p0_1 &&& (1 : Int32)) = (0 : Int32))) = (0 : Int32) := (bI_f hc38)
        exact castTop (g := (mkF m 25 #[.val (.int p0_0), .val (.int p0_1), .val (.int p0_2), .val (.int (2 : Int32)), .val (.ref w0_SOUTH_EAST), .unset, .unset] [(.int (0 : Int32))])) (g' := (mkF m 25 #[.val (.int p0_0), .val (.int p0_1), .val (.int p0_2), .val (.int (2 : Int32)), .val (.ref w0_SOUTH_EAST), .unset, .unset] [(.int (bI ((p0_1 &&& (1 : Int32)) = (0 : Int32))))])) (by simp only [q42]) k)
    obtain ⟨_, _, ⟨T43, L43, k43, n43⟩, -, X43, ⟨Lc43, hQ43, l43, y43, z43⟩, st43⟩ := Jvm.LawKit.callS X35 hx (y := (⟨"com/example/shieldwall/shieldwall/model/DirectionRowFromPinLaw", "expectedStep", "(IZ)I"⟩ : MethodName)) hown (mvT hZ (hVV 8 _ rfl)) (mvT hZ (hVV 9 _ rfl)) (mvT hZ (hVV 3 _ rfl)) (mvT hZ (hVV 10 _ rfl)) (by decide) (backOf (W := 1) (rm2_2 l Z a0 hw [] (bI ((p0_1 &&& (1 : Int32)) = (0 : Int32))) h0 n0 Z0 ) hZ (hVV 10 _ rfl) (hVV 3 _ rfl) (by decide) (by decide)) (g := (mkF m 31 #[.val (.int p0_0), .val (.int p0_1), .val (.int p0_2), .val (.int (2 : Int32)), .val (.ref w0_SOUTH_EAST), .val (.int (bI ((p0_1 &&& (1 : Int32)) = (0 : Int32)))), .unset] [(.int (bI ((p0_1 &&& (1 : Int32)) = (0 : Int32)))), (.int (2 : Int32)), (.int p0_2)])) rfl (by rw [hml]; rfl) (argsL := [(.int (2 : Int32)), (.int (bI ((p0_1 &&& (1 : Int32)) = (0 : Int32))))]) (rest := [(.int p0_2)]) (lenOf pd_1 rfl) rfl (by show 2 * 0 + _ ≤ _; exact Nat.le_of_eq rfl) (hb hby at_31) (fun _ _ => ⟨rfl, e35, (by decide : 0 + 0 ≤ _), (by decide : 0 + 0 ≤ _)⟩)
    dsimp only [Pt.U, Pt.locs, Pt.cells, Pt.slots] at X43 l43 y43 z43 st43 hQ43
    subst l43 y43 z43
    obtain ⟨rfl, N43q, e43⟩ := hQ43
    have N44 := Fr.app N36 N43q
    have pre45 : ∀ t, Steps p.tables e below (T43.setTop (mkF m 34 #[.val (.int p0_0), .val (.int p0_1), .val (.int p0_2), .val (.int (2 : Int32)), .val (.ref w0_SOUTH_EAST), .val (.int (bI ((p0_1 &&& (1 : Int32)) = (0 : Int32)))), .unset] [(.int (bI (¬ ((bI ((p0_1 &&& (1 : Int32)) = (0 : Int32))) = (0 : Int32))))), (.int p0_2)])) t → Steps p.tables e below (s₁.setTop (entryFrame m #[(.int p0_0), (.int p0_1), (.int p0_2)] maxLocals)) t := fun t k => pre40 t (by
      show Steps p.tables e below (T35.setTop (mkF m 25 #[.val (.int p0_0), .val (.int p0_1), .val (.int p0_2), .val (.int (2 : Int32)), .val (.ref w0_SOUTH_EAST), .unset, .unset] [(.int (bI ((p0_1 &&& (1 : Int32)) = (0 : Int32))))])) _
      refine XS.istore X35.here hx rfl (hb hby at_25) rfl (l' := #[.val (.int p0_0), .val (.int p0_1), .val (.int p0_2), .val (.int (2 : Int32)), .val (.ref w0_SOUTH_EAST), .val (.int (bI ((p0_1 &&& (1 : Int32)) = (0 : Int32)))), .unset]) rfl ?_
      show Steps p.tables e below (T35.setTop (mkF m 27 #[.val (.int p0_0), .val (.int p0_1), .val (.int p0_2), .val (.int (2 : Int32)), .val (.ref w0_SOUTH_EAST), .val (.int (bI ((p0_1 &&& (1 : Int32)) = (0 : Int32)))), .unset] [])) _
      refine XS.iloadN X35.here hx rfl (hb hby at_27) rfl ?_
      show Steps p.tables e below (T35.setTop (mkF m 28 #[.val (.int p0_0), .val (.int p0_1), .val (.int p0_2), .val (.int (2 : Int32)), .val (.ref w0_SOUTH_EAST), .val (.int (bI ((p0_1 &&& (1 : Int32)) = (0 : Int32)))), .unset] [(.int p0_2)])) _
      refine XS.iloadN X35.here hx rfl (hb hby at_28) rfl ?_
      show Steps p.tables e below (T35.setTop (mkF m 29 #[.val (.int p0_0), .val (.int p0_1), .val (.int p0_2), .val (.int (2 : Int32)), .val (.ref w0_SOUTH_EAST), .val (.int (bI ((p0_1 &&& (1 : Int32)) = (0 : Int32)))), .unset] [(.int (2 : Int32)), (.int p0_2)])) _
      refine XS.iload X35.here hx rfl (hb hby at_29) rfl ?_
      show Steps p.tables e below (T35.setTop (mkF m 31 #[.val (.int p0_0), .val (.int p0_1), .val (.int p0_2), .val (.int (2 : Int32)), .val (.ref w0_SOUTH_EAST), .val (.int (bI ((p0_1 &&& (1 : Int32)) = (0 : Int32)))), .unset] [(.int (bI ((p0_1 &&& (1 : Int32)) = (0 : Int32)))), (.int (2 : Int32)), (.int p0_2)])) _
      refine st43 _ ?_
      exact k)
    obtain ⟨cq46, kq46, q46a, q46b, q46c⟩ := isOf hZ e43 EE_SOUTH_EAST
    obtain ⟨_, _, ⟨T46, L46, k46, n46⟩, -, X46, ⟨Lc46, hQ46, l46, y46, z46⟩, st46⟩ := X43.virtualBack hx (y := (⟨"com/example/shieldwall/shieldwall/model/Direction", "rowFrom", "(II)I"⟩ : MethodName)) (z := (⟨"com/example/shieldwall/shieldwall/model/Direction", "rowFrom", "(II)I"⟩ : MethodName)) hown (mvT hZ (hVV 11 _ rfl)) (mvT hZ (hVV 12 _ rfl)) (notFace_of_selects (args := #[]) (mvT hZ (hVV 14 _ rfl))) (mvT hZ (hVV 14 _ rfl)) (mvT hZ (hVV 13 _ rfl)) (by decide) (backOf (W := 0) (rm3 l Z a0 hw [] w0_SOUTH_EAST p0_1 p0_2 (1 : Int32) (0 : Int32) h0 n0 Z0 FF_SOUTH_EAST_rowStepFromEven FF_SOUTH_EAST_rowStepFromOdd) hZ (hVV 15 _ rfl) (hVV 6 _ rfl) (by decide) (by decide)) q46a q46c (g := (mkF m 41 #[.val (.int p0_0), .val (.int p0_1), .val (.int p0_2), .val (.int (2 : Int32)), .val (.ref w0_SOUTH_EAST), .val (.int (bI ((p0_1 &&& (1 : Int32)) = (0 : Int32)))), .val (.int (p0_2 + (bI (¬ ((bI ((p0_1 &&& (1 : Int32)) = (0 : Int32))) = (0 : Int32))))))] [(.int p0_2), (.int p0_1), (.ref w0_SOUTH_EAST)])) rfl (by rw [hml]; rfl) (Steps.refl _) (argsL := [(.int p0_1), (.int p0_2)]) (rest := []) (lenOf pd_2 rfl) rfl (by show 2 * 0 + _ ≤ _; exact Nat.le_of_eq rfl) (hb hby at_41) (fun _ _ => ⟨rfl, e43, (by decide : 0 + 0 ≤ _), (by decide : 0 + 0 ≤ _)⟩)
    dsimp only [Pt.U, Pt.locs, Pt.cells, Pt.slots] at X46 l46 y46 z46 st46 hQ46
    subst l46 y46 z46
    obtain ⟨rfl, N46q, e46⟩ := hQ46
    have N47 := Fr.app N44 N46q
    have pre48 : ∀ t, Steps p.tables e below (T46.setTop (mkF m 44 #[.val (.int p0_0), .val (.int p0_1), .val (.int p0_2), .val (.int (2 : Int32)), .val (.ref w0_SOUTH_EAST), .val (.int (bI ((p0_1 &&& (1 : Int32)) = (0 : Int32)))), .val (.int (p0_2 + (bI (¬ ((bI ((p0_1 &&& (1 : Int32)) = (0 : Int32))) = (0 : Int32))))))] [(.int (if (p0_1 - (p0_1 / (2 : Int32)) * (2 : Int32)) = (0 : Int32) then (p0_2 + (1 : Int32)) else (p0_2 + (0 : Int32))))])) t → Steps p.tables e below (s₁.setTop (entryFrame m #[(.int p0_0), (.int p0_1), (.int p0_2)] maxLocals)) t := fun t k => pre45 t (by
      show Steps p.tables e below (T43.setTop (mkF m 34 #[.val (.int p0_0), .val (.int p0_1), .val (.int p0_2), .val (.int (2 : Int32)), .val (.ref w0_SOUTH_EAST), .val (.int (bI ((p0_1 &&& (1 : Int32)) = (0 : Int32)))), .unset] [(.int (bI (¬ ((bI ((p0_1 &&& (1 : Int32)) = (0 : Int32))) = (0 : Int32))))), (.int p0_2)])) _
      refine XS.iadd X43.here hx rfl (hb hby at_34) rfl ?_
      show Steps p.tables e below (T43.setTop (mkF m 35 #[.val (.int p0_0), .val (.int p0_1), .val (.int p0_2), .val (.int (2 : Int32)), .val (.ref w0_SOUTH_EAST), .val (.int (bI ((p0_1 &&& (1 : Int32)) = (0 : Int32)))), .unset] [(.int (p0_2 + (bI (¬ ((bI ((p0_1 &&& (1 : Int32)) = (0 : Int32))) = (0 : Int32))))))])) _
      refine XS.istore X43.here hx rfl (hb hby at_35) rfl (l' := #[.val (.int p0_0), .val (.int p0_1), .val (.int p0_2), .val (.int (2 : Int32)), .val (.ref w0_SOUTH_EAST), .val (.int (bI ((p0_1 &&& (1 : Int32)) = (0 : Int32)))), .val (.int (p0_2 + (bI (¬ ((bI ((p0_1 &&& (1 : Int32)) = (0 : Int32))) = (0 : Int32))))))]) rfl ?_
      show Steps p.tables e below (T43.setTop (mkF m 37 #[.val (.int p0_0), .val (.int p0_1), .val (.int p0_2), .val (.int (2 : Int32)), .val (.ref w0_SOUTH_EAST), .val (.int (bI ((p0_1 &&& (1 : Int32)) = (0 : Int32)))), .val (.int (p0_2 + (bI (¬ ((bI ((p0_1 &&& (1 : Int32)) = (0 : Int32))) = (0 : Int32))))))] [])) _
      refine XS.aload X43.here hx rfl (hb hby at_37) rfl rfl ?_
      show Steps p.tables e below (T43.setTop (mkF m 39 #[.val (.int p0_0), .val (.int p0_1), .val (.int p0_2), .val (.int (2 : Int32)), .val (.ref w0_SOUTH_EAST), .val (.int (bI ((p0_1 &&& (1 : Int32)) = (0 : Int32)))), .val (.int (p0_2 + (bI (¬ ((bI ((p0_1 &&& (1 : Int32)) = (0 : Int32))) = (0 : Int32))))))] [(.ref w0_SOUTH_EAST)])) _
      refine XS.iloadN X43.here hx rfl (hb hby at_39) rfl ?_
      show Steps p.tables e below (T43.setTop (mkF m 40 #[.val (.int p0_0), .val (.int p0_1), .val (.int p0_2), .val (.int (2 : Int32)), .val (.ref w0_SOUTH_EAST), .val (.int (bI ((p0_1 &&& (1 : Int32)) = (0 : Int32)))), .val (.int (p0_2 + (bI (¬ ((bI ((p0_1 &&& (1 : Int32)) = (0 : Int32))) = (0 : Int32))))))] [(.int p0_1), (.ref w0_SOUTH_EAST)])) _
      refine XS.iloadN X43.here hx rfl (hb hby at_40) rfl ?_
      show Steps p.tables e below (T43.setTop (mkF m 41 #[.val (.int p0_0), .val (.int p0_1), .val (.int p0_2), .val (.int (2 : Int32)), .val (.ref w0_SOUTH_EAST), .val (.int (bI ((p0_1 &&& (1 : Int32)) = (0 : Int32)))), .val (.int (p0_2 + (bI (¬ ((bI ((p0_1 &&& (1 : Int32)) = (0 : Int32))) = (0 : Int32))))))] [(.int p0_2), (.int p0_1), (.ref w0_SOUTH_EAST)])) _
      refine st46.trans ?_
      exact k)
    have hd49 : (if (p0_1 - (p0_1 / (2 : Int32)) * (2 : Int32)) = (0 : Int32) then (p0_2 + (1 : Int32)) else (p0_2 + (0 : Int32))) = (p0_2 + (bI (¬ ((bI ((p0_1 &&& (1 : Int32)) = (0 : Int32))) = (0 : Int32))))) := by
      exact own_finB _ _
    obtain ⟨fs, hr, hrun, hended, hW, hsame⟩ := X46.leave (v := some (.int (1 : Int32))) (fun h => by rw [Bd.returns] at h; cases h)
    refine ⟨_, _, pre48 _ ?_, hrun, hended, _, _, rfl, ?_, ⟨_, rfl⟩, hW, hsame.mono (by decide) (by decide)⟩
    · show Steps p.tables e below (T46.setTop (mkF m 44 #[.val (.int p0_0), .val (.int p0_1), .val (.int p0_2), .val (.int (2 : Int32)), .val (.ref w0_SOUTH_EAST), .val (.int (bI ((p0_1 &&& (1 : Int32)) = (0 : Int32)))), .val (.int (p0_2 + (bI (¬ ((bI ((p0_1 &&& (1 : Int32)) = (0 : Int32))) = (0 : Int32))))))] [(.int (if (p0_1 - (p0_1 / (2 : Int32)) * (2 : Int32)) = (0 : Int32) then (p0_2 + (1 : Int32)) else (p0_2 + (0 : Int32))))])) _
      refine XS.iload X46.here hx rfl (hb hby at_44) rfl ?_
      show Steps p.tables e below (T46.setTop (mkF m 46 #[.val (.int p0_0), .val (.int p0_1), .val (.int p0_2), .val (.int (2 : Int32)), .val (.ref w0_SOUTH_EAST), .val (.int (bI ((p0_1 &&& (1 : Int32)) = (0 : Int32)))), .val (.int (p0_2 + (bI (¬ ((bI ((p0_1 &&& (1 : Int32)) = (0 : Int32))) = (0 : Int32))))))] [(.int (p0_2 + (bI (¬ ((bI ((p0_1 &&& (1 : Int32)) = (0 : Int32))) = (0 : Int32)))))), (.int (if (p0_1 - (p0_1 / (2 : Int32)) * (2 : Int32)) = (0 : Int32) then (p0_2 + (1 : Int32)) else (p0_2 + (0 : Int32))))])) _
      refine XS.icmpNo X46.here hx rfl (hb hby at_46) rfl (teq hd49).2 ?_
      show Steps p.tables e below (T46.setTop (mkF m 49 #[.val (.int p0_0), .val (.int p0_1), .val (.int p0_2), .val (.int (2 : Int32)), .val (.ref w0_SOUTH_EAST), .val (.int (bI ((p0_1 &&& (1 : Int32)) = (0 : Int32)))), .val (.int (p0_2 + (bI (¬ ((bI ((p0_1 &&& (1 : Int32)) = (0 : Int32))) = (0 : Int32))))))] [])) _
      refine XS.iconst X46.here hx rfl (hb hby at_49) ?_
      show Steps p.tables e below (T46.setTop (mkF m 50 #[.val (.int p0_0), .val (.int p0_1), .val (.int p0_2), .val (.int (2 : Int32)), .val (.ref w0_SOUTH_EAST), .val (.int (bI ((p0_1 &&& (1 : Int32)) = (0 : Int32)))), .val (.int (p0_2 + (bI (¬ ((bI ((p0_1 &&& (1 : Int32)) = (0 : Int32))) = (0 : Int32))))))] [(.int (1 : Int32))])) _
      refine XS.goto X46.here hx rfl (pc0 := 50) (pc' := 54) rfl (hb hby at_50) (by decide) (by decide) ?_
      show Steps p.tables e below (T46.setTop (mkF m 54 #[.val (.int p0_0), .val (.int p0_1), .val (.int p0_2), .val (.int (2 : Int32)), .val (.ref w0_SOUTH_EAST), .val (.int (bI ((p0_1 &&& (1 : Int32)) = (0 : Int32)))), .val (.int (p0_2 + (bI (¬ ((bI ((p0_1 &&& (1 : Int32)) = (0 : Int32))) = (0 : Int32))))))] [(.int (1 : Int32))])) _
      exact retN X46 hx (t := .boolean) Bd.returns (by simp) (hb hby at_54) hr
    · show Q0 Z p0_0 p0_1 p0_2 w0_NORTH w0_NORTH_EAST w0_SOUTH_EAST w0_SOUTH w0_SOUTH_WEST w0_NORTH_WEST h0 n0 _ T46.heap _
      rw [e46]
      exact ⟨rfl, N47⟩
  · have pre50 : ∀ t, Steps p.tables e below (s₁.setTop (mkF m 8 #[.val (.int p0_0), .val (.int p0_1), .val (.int p0_2), .val (.int (3 : Int32)), .unset, .unset, .unset] [])) t → Steps p.tables e below (s₁.setTop (entryFrame m #[(.int p0_0), (.int p0_1), (.int p0_2)] maxLocals)) t := fun t k => pre1 t (castTop (by rw [hk]) k)
    obtain ⟨_, _, ⟨T51, L51, k51, n51⟩, -, X51, ⟨Lc51, hQ51, l51, y51, z51⟩, st51⟩ := Jvm.LawKit.callS X0 hx (y := (⟨"com/example/shieldwall/shieldwall/model/DirectionRowFromPinLaw", "pick", "(I)Lcom/example/shieldwall/shieldwall/model/Direction;"⟩ : MethodName)) hown (mvT hZ (hVV 1 _ rfl)) (mvT hZ (hVV 2 _ rfl)) (mvT hZ (hVV 3 _ rfl)) (mvT hZ (hVV 4 _ rfl)) (by decide) (backOf (W := 0) (rm1_3 l Z a0 hw [] w0_SOUTH h0 n0 Z0 O0 S_SOUTH) hZ (hVV 4 _ rfl) (hVV 3 _ rfl) (by decide) (by decide)) (g := (mkF m 9 #[.val (.int p0_0), .val (.int p0_1), .val (.int p0_2), .val (.int (3 : Int32)), .unset, .unset, .unset] [(.int (3 : Int32))])) rfl (by rw [hml]; rfl) (argsL := [(.int (3 : Int32))]) (rest := []) (lenOf pd_0 rfl) rfl (by show 2 * 0 + _ ≤ _; exact Nat.le_of_eq rfl) (hb hby at_9) (fun _ _ => ⟨rfl, e0, (by decide : 0 + 0 ≤ _), (by decide : 0 + 0 ≤ _)⟩)
    dsimp only [Pt.U, Pt.locs, Pt.cells, Pt.slots] at X51 l51 y51 z51 st51 hQ51
    subst l51 y51 z51
    obtain ⟨rfl, N51q, e51⟩ := hQ51
    have N52 := Fr.app N0 N51q
    have pre53 : ∀ t, Steps p.tables e below (T51.setTop (mkF m 12 #[.val (.int p0_0), .val (.int p0_1), .val (.int p0_2), .val (.int (3 : Int32)), .unset, .unset, .unset] [(.ref w0_SOUTH)])) t → Steps p.tables e below (s₁.setTop (entryFrame m #[(.int p0_0), (.int p0_1), (.int p0_2)] maxLocals)) t := fun t k => pre50 t (by
      show Steps p.tables e below (s₁.setTop (mkF m 8 #[.val (.int p0_0), .val (.int p0_1), .val (.int p0_2), .val (.int (3 : Int32)), .unset, .unset, .unset] [])) _
      refine XS.iloadN X0.here hx rfl (hb hby at_8) rfl ?_
      show Steps p.tables e below (s₁.setTop (mkF m 9 #[.val (.int p0_0), .val (.int p0_1), .val (.int p0_2), .val (.int (3 : Int32)), .unset, .unset, .unset] [(.int (3 : Int32))])) _
      refine st51 _ ?_
      exact k)
    have pre55 : ∀ t, Steps p.tables e below (T51.setTop (mkF m 17 #[.val (.int p0_0), .val (.int p0_1), .val (.int p0_2), .val (.int (3 : Int32)), .val (.ref w0_SOUTH), .unset, .unset] [(.int (p0_1 &&& (1 : Int32)))])) t → Steps p.tables e below (s₁.setTop (entryFrame m #[(.int p0_0), (.int p0_1), (.int p0_2)] maxLocals)) t := fun t k => pre53 t (by
      show Steps p.tables e below (T51.setTop (mkF m 12 #[.val (.int p0_0), .val (.int p0_1), .val (.int p0_2), .val (.int (3 : Int32)), .unset, .unset, .unset] [(.ref w0_SOUTH)])) _
      refine XS.astore X51.here hx rfl (hb hby at_12) rfl rfl (l' := #[.val (.int p0_0), .val (.int p0_1), .val (.int p0_2), .val (.int (3 : Int32)), .val (.ref w0_SOUTH), .unset, .unset]) rfl ?_
      show Steps p.tables e below (T51.setTop (mkF m 14 #[.val (.int p0_0), .val (.int p0_1), .val (.int p0_2), .val (.int (3 : Int32)), .val (.ref w0_SOUTH), .unset, .unset] [])) _
      refine XS.iloadN X51.here hx rfl (hb hby at_14) rfl ?_
      show Steps p.tables e below (T51.setTop (mkF m 15 #[.val (.int p0_0), .val (.int p0_1), .val (.int p0_2), .val (.int (3 : Int32)), .val (.ref w0_SOUTH), .unset, .unset] [(.int p0_1)])) _
      refine XS.iconst X51.here hx rfl (hb hby at_15) ?_
      show Steps p.tables e below (T51.setTop (mkF m 16 #[.val (.int p0_0), .val (.int p0_1), .val (.int p0_2), .val (.int (3 : Int32)), .val (.ref w0_SOUTH), .unset, .unset] [(.int (1 : Int32)), (.int p0_1)])) _
      refine XS.iand X51.here hx rfl (hb hby at_16) rfl ?_
      exact k)
    have pre56 : ∀ t, Steps p.tables e below (T51.setTop (mkF m 25 #[.val (.int p0_0), .val (.int p0_1), .val (.int p0_2), .val (.int (3 : Int32)), .val (.ref w0_SOUTH), .unset, .unset] [(.int (bI ((p0_1 &&& (1 : Int32)) = (0 : Int32))))])) t → Steps p.tables e below (s₁.setTop (entryFrame m #[(.int p0_0), (.int p0_1), (.int p0_2)] maxLocals)) t := fun t k => pre55 t (by
      by_cases hc54 : (p0_1 &&& (1 : Int32)) = (0 : Int32)
      · show Steps p.tables e below (T51.setTop (mkF m 17 #[.val (.int p0_0), .val (.int p0_1), .val (.int p0_2), .val (.int (3 : Int32)), .val (.ref w0_SOUTH), .unset, .unset] [(.int (p0_1 &&& (1 : Int32)))])) _
        refine XS.ifNo X51.here hx rfl (hb hby at_17) rfl ((if0 _ _).trans (teq hc54).2) ?_
        show Steps p.tables e below (T51.setTop (mkF m 20 #[.val (.int p0_0), .val (.int p0_1), .val (.int p0_2), .val (.int (3 : Int32)), .val (.ref w0_SOUTH), .unset, .unset] [])) _
        refine XS.iconst X51.here hx rfl (hb hby at_20) ?_
        show Steps p.tables e below (T51.setTop (mkF m 21 #[.val (.int p0_0), .val (.int p0_1), .val (.int p0_2), .val (.int (3 : Int32)), .val (.ref w0_SOUTH), .unset, .unset] [(.int (1 : Int32))])) _
        refine XS.goto X51.here hx rfl (pc0 := 21) (pc' := 25) rfl (hb hby at_21) (by decide) (by decide) ?_
        have q57 : (bI ((p0_1 &&& (1 : Int32)) = (0 : Int32))) = (1 : Int32) := (bI_t hc54)
        exact castTop (g := (mkF m 25 #[.val (.int p0_0), .val (.int p0_1), .val (.int p0_2), .val (.int (3 : Int32)), .val (.ref w0_SOUTH), .unset, .unset] [(.int (1 : Int32))])) (g' := (mkF m 25 #[.val (.int p0_0), .val (.int p0_1), .val (.int p0_2), .val (.int (3 : Int32)), .val (.ref w0_SOUTH), .unset, .unset] [(.int (bI ((p0_1 &&& (1 : Int32)) = (0 : Int32))))])) (by simp only [q57]) k
      · show Steps p.tables e below (T51.setTop (mkF m 17 #[.val (.int p0_0), .val (.int p0_1), .val (.int p0_2), .val (.int (3 : Int32)), .val (.ref w0_SOUTH), .unset, .unset] [(.int (p0_1 &&& (1 : Int32)))])) _
        refine XS.ifYes X51.here hx rfl (pc0 := 17) (pc' := 24) rfl (hb hby at_17) rfl ((if0 _ _).trans (feq hc54).2) (by decide) (by decide) ?_
        show Steps p.tables e below (T51.setTop (mkF m 24 #[.val (.int p0_0), .val (.int p0_1), .val (.int p0_2), .val (.int (3 : Int32)), .val (.ref w0_SOUTH), .unset, .unset] [])) _
        refine XS.iconst X51.here hx rfl (hb hby at_24) ?_
        have q58 : (bI ((p0_1 &&& (1 : Int32)) = (0 : Int32))) = (0 : Int32) := (bI_f hc54)
        exact castTop (g := (mkF m 25 #[.val (.int p0_0), .val (.int p0_1), .val (.int p0_2), .val (.int (3 : Int32)), .val (.ref w0_SOUTH), .unset, .unset] [(.int (0 : Int32))])) (g' := (mkF m 25 #[.val (.int p0_0), .val (.int p0_1), .val (.int p0_2), .val (.int (3 : Int32)), .val (.ref w0_SOUTH), .unset, .unset] [(.int (bI ((p0_1 &&& (1 : Int32)) = (0 : Int32))))])) (by simp only [q58]) k)
    obtain ⟨_, _, ⟨T59, L59, k59, n59⟩, -, X59, ⟨Lc59, hQ59, l59, y59, z59⟩, st59⟩ := Jvm.LawKit.callS X51 hx (y := (⟨"com/example/shieldwall/shieldwall/model/DirectionRowFromPinLaw", "expectedStep", "(IZ)I"⟩ : MethodName)) hown (mvT hZ (hVV 8 _ rfl)) (mvT hZ (hVV 9 _ rfl)) (mvT hZ (hVV 3 _ rfl)) (mvT hZ (hVV 10 _ rfl)) (by decide) (backOf (W := 1) (rm2_3 l Z a0 hw [] (bI ((p0_1 &&& (1 : Int32)) = (0 : Int32))) h0 n0 Z0 ) hZ (hVV 10 _ rfl) (hVV 3 _ rfl) (by decide) (by decide)) (g := (mkF m 31 #[.val (.int p0_0), .val (.int p0_1), .val (.int p0_2), .val (.int (3 : Int32)), .val (.ref w0_SOUTH), .val (.int (bI ((p0_1 &&& (1 : Int32)) = (0 : Int32)))), .unset] [(.int (bI ((p0_1 &&& (1 : Int32)) = (0 : Int32)))), (.int (3 : Int32)), (.int p0_2)])) rfl (by rw [hml]; rfl) (argsL := [(.int (3 : Int32)), (.int (bI ((p0_1 &&& (1 : Int32)) = (0 : Int32))))]) (rest := [(.int p0_2)]) (lenOf pd_1 rfl) rfl (by show 2 * 0 + _ ≤ _; exact Nat.le_of_eq rfl) (hb hby at_31) (fun _ _ => ⟨rfl, e51, (by decide : 0 + 0 ≤ _), (by decide : 0 + 0 ≤ _)⟩)
    dsimp only [Pt.U, Pt.locs, Pt.cells, Pt.slots] at X59 l59 y59 z59 st59 hQ59
    subst l59 y59 z59
    obtain ⟨rfl, N59q, e59⟩ := hQ59
    have N60 := Fr.app N52 N59q
    have pre61 : ∀ t, Steps p.tables e below (T59.setTop (mkF m 34 #[.val (.int p0_0), .val (.int p0_1), .val (.int p0_2), .val (.int (3 : Int32)), .val (.ref w0_SOUTH), .val (.int (bI ((p0_1 &&& (1 : Int32)) = (0 : Int32)))), .unset] [(.int (1 : Int32)), (.int p0_2)])) t → Steps p.tables e below (s₁.setTop (entryFrame m #[(.int p0_0), (.int p0_1), (.int p0_2)] maxLocals)) t := fun t k => pre56 t (by
      show Steps p.tables e below (T51.setTop (mkF m 25 #[.val (.int p0_0), .val (.int p0_1), .val (.int p0_2), .val (.int (3 : Int32)), .val (.ref w0_SOUTH), .unset, .unset] [(.int (bI ((p0_1 &&& (1 : Int32)) = (0 : Int32))))])) _
      refine XS.istore X51.here hx rfl (hb hby at_25) rfl (l' := #[.val (.int p0_0), .val (.int p0_1), .val (.int p0_2), .val (.int (3 : Int32)), .val (.ref w0_SOUTH), .val (.int (bI ((p0_1 &&& (1 : Int32)) = (0 : Int32)))), .unset]) rfl ?_
      show Steps p.tables e below (T51.setTop (mkF m 27 #[.val (.int p0_0), .val (.int p0_1), .val (.int p0_2), .val (.int (3 : Int32)), .val (.ref w0_SOUTH), .val (.int (bI ((p0_1 &&& (1 : Int32)) = (0 : Int32)))), .unset] [])) _
      refine XS.iloadN X51.here hx rfl (hb hby at_27) rfl ?_
      show Steps p.tables e below (T51.setTop (mkF m 28 #[.val (.int p0_0), .val (.int p0_1), .val (.int p0_2), .val (.int (3 : Int32)), .val (.ref w0_SOUTH), .val (.int (bI ((p0_1 &&& (1 : Int32)) = (0 : Int32)))), .unset] [(.int p0_2)])) _
      refine XS.iloadN X51.here hx rfl (hb hby at_28) rfl ?_
      show Steps p.tables e below (T51.setTop (mkF m 29 #[.val (.int p0_0), .val (.int p0_1), .val (.int p0_2), .val (.int (3 : Int32)), .val (.ref w0_SOUTH), .val (.int (bI ((p0_1 &&& (1 : Int32)) = (0 : Int32)))), .unset] [(.int (3 : Int32)), (.int p0_2)])) _
      refine XS.iload X51.here hx rfl (hb hby at_29) rfl ?_
      show Steps p.tables e below (T51.setTop (mkF m 31 #[.val (.int p0_0), .val (.int p0_1), .val (.int p0_2), .val (.int (3 : Int32)), .val (.ref w0_SOUTH), .val (.int (bI ((p0_1 &&& (1 : Int32)) = (0 : Int32)))), .unset] [(.int (bI ((p0_1 &&& (1 : Int32)) = (0 : Int32)))), (.int (3 : Int32)), (.int p0_2)])) _
      refine st59 _ ?_
      exact k)
    obtain ⟨cq62, kq62, q62a, q62b, q62c⟩ := isOf hZ e59 EE_SOUTH
    obtain ⟨_, _, ⟨T62, L62, k62, n62⟩, -, X62, ⟨Lc62, hQ62, l62, y62, z62⟩, st62⟩ := X59.virtualBack hx (y := (⟨"com/example/shieldwall/shieldwall/model/Direction", "rowFrom", "(II)I"⟩ : MethodName)) (z := (⟨"com/example/shieldwall/shieldwall/model/Direction", "rowFrom", "(II)I"⟩ : MethodName)) hown (mvT hZ (hVV 11 _ rfl)) (mvT hZ (hVV 12 _ rfl)) (notFace_of_selects (args := #[]) (mvT hZ (hVV 14 _ rfl))) (mvT hZ (hVV 14 _ rfl)) (mvT hZ (hVV 13 _ rfl)) (by decide) (backOf (W := 0) (rm3 l Z a0 hw [] w0_SOUTH p0_1 p0_2 (1 : Int32) (1 : Int32) h0 n0 Z0 FF_SOUTH_rowStepFromEven FF_SOUTH_rowStepFromOdd) hZ (hVV 15 _ rfl) (hVV 6 _ rfl) (by decide) (by decide)) q62a q62c (g := (mkF m 41 #[.val (.int p0_0), .val (.int p0_1), .val (.int p0_2), .val (.int (3 : Int32)), .val (.ref w0_SOUTH), .val (.int (bI ((p0_1 &&& (1 : Int32)) = (0 : Int32)))), .val (.int (p0_2 + (1 : Int32)))] [(.int p0_2), (.int p0_1), (.ref w0_SOUTH)])) rfl (by rw [hml]; rfl) (Steps.refl _) (argsL := [(.int p0_1), (.int p0_2)]) (rest := []) (lenOf pd_2 rfl) rfl (by show 2 * 0 + _ ≤ _; exact Nat.le_of_eq rfl) (hb hby at_41) (fun _ _ => ⟨rfl, e59, (by decide : 0 + 0 ≤ _), (by decide : 0 + 0 ≤ _)⟩)
    dsimp only [Pt.U, Pt.locs, Pt.cells, Pt.slots] at X62 l62 y62 z62 st62 hQ62
    subst l62 y62 z62
    obtain ⟨rfl, N62q, e62⟩ := hQ62
    have N63 := Fr.app N60 N62q
    have pre64 : ∀ t, Steps p.tables e below (T62.setTop (mkF m 44 #[.val (.int p0_0), .val (.int p0_1), .val (.int p0_2), .val (.int (3 : Int32)), .val (.ref w0_SOUTH), .val (.int (bI ((p0_1 &&& (1 : Int32)) = (0 : Int32)))), .val (.int (p0_2 + (1 : Int32)))] [(.int (if (p0_1 - (p0_1 / (2 : Int32)) * (2 : Int32)) = (0 : Int32) then (p0_2 + (1 : Int32)) else (p0_2 + (1 : Int32))))])) t → Steps p.tables e below (s₁.setTop (entryFrame m #[(.int p0_0), (.int p0_1), (.int p0_2)] maxLocals)) t := fun t k => pre61 t (by
      show Steps p.tables e below (T59.setTop (mkF m 34 #[.val (.int p0_0), .val (.int p0_1), .val (.int p0_2), .val (.int (3 : Int32)), .val (.ref w0_SOUTH), .val (.int (bI ((p0_1 &&& (1 : Int32)) = (0 : Int32)))), .unset] [(.int (1 : Int32)), (.int p0_2)])) _
      refine XS.iadd X59.here hx rfl (hb hby at_34) rfl ?_
      show Steps p.tables e below (T59.setTop (mkF m 35 #[.val (.int p0_0), .val (.int p0_1), .val (.int p0_2), .val (.int (3 : Int32)), .val (.ref w0_SOUTH), .val (.int (bI ((p0_1 &&& (1 : Int32)) = (0 : Int32)))), .unset] [(.int (p0_2 + (1 : Int32)))])) _
      refine XS.istore X59.here hx rfl (hb hby at_35) rfl (l' := #[.val (.int p0_0), .val (.int p0_1), .val (.int p0_2), .val (.int (3 : Int32)), .val (.ref w0_SOUTH), .val (.int (bI ((p0_1 &&& (1 : Int32)) = (0 : Int32)))), .val (.int (p0_2 + (1 : Int32)))]) rfl ?_
      show Steps p.tables e below (T59.setTop (mkF m 37 #[.val (.int p0_0), .val (.int p0_1), .val (.int p0_2), .val (.int (3 : Int32)), .val (.ref w0_SOUTH), .val (.int (bI ((p0_1 &&& (1 : Int32)) = (0 : Int32)))), .val (.int (p0_2 + (1 : Int32)))] [])) _
      refine XS.aload X59.here hx rfl (hb hby at_37) rfl rfl ?_
      show Steps p.tables e below (T59.setTop (mkF m 39 #[.val (.int p0_0), .val (.int p0_1), .val (.int p0_2), .val (.int (3 : Int32)), .val (.ref w0_SOUTH), .val (.int (bI ((p0_1 &&& (1 : Int32)) = (0 : Int32)))), .val (.int (p0_2 + (1 : Int32)))] [(.ref w0_SOUTH)])) _
      refine XS.iloadN X59.here hx rfl (hb hby at_39) rfl ?_
      show Steps p.tables e below (T59.setTop (mkF m 40 #[.val (.int p0_0), .val (.int p0_1), .val (.int p0_2), .val (.int (3 : Int32)), .val (.ref w0_SOUTH), .val (.int (bI ((p0_1 &&& (1 : Int32)) = (0 : Int32)))), .val (.int (p0_2 + (1 : Int32)))] [(.int p0_1), (.ref w0_SOUTH)])) _
      refine XS.iloadN X59.here hx rfl (hb hby at_40) rfl ?_
      show Steps p.tables e below (T59.setTop (mkF m 41 #[.val (.int p0_0), .val (.int p0_1), .val (.int p0_2), .val (.int (3 : Int32)), .val (.ref w0_SOUTH), .val (.int (bI ((p0_1 &&& (1 : Int32)) = (0 : Int32)))), .val (.int (p0_2 + (1 : Int32)))] [(.int p0_2), (.int p0_1), (.ref w0_SOUTH)])) _
      refine st62.trans ?_
      exact k)
    have hd65 : (if (p0_1 - (p0_1 / (2 : Int32)) * (2 : Int32)) = (0 : Int32) then (p0_2 + (1 : Int32)) else (p0_2 + (1 : Int32))) = (p0_2 + (1 : Int32)) := by
      split <;> rfl
    obtain ⟨fs, hr, hrun, hended, hW, hsame⟩ := X62.leave (v := some (.int (1 : Int32))) (fun h => by rw [Bd.returns] at h; cases h)
    refine ⟨_, _, pre64 _ ?_, hrun, hended, _, _, rfl, ?_, ⟨_, rfl⟩, hW, hsame.mono (by decide) (by decide)⟩
    · show Steps p.tables e below (T62.setTop (mkF m 44 #[.val (.int p0_0), .val (.int p0_1), .val (.int p0_2), .val (.int (3 : Int32)), .val (.ref w0_SOUTH), .val (.int (bI ((p0_1 &&& (1 : Int32)) = (0 : Int32)))), .val (.int (p0_2 + (1 : Int32)))] [(.int (if (p0_1 - (p0_1 / (2 : Int32)) * (2 : Int32)) = (0 : Int32) then (p0_2 + (1 : Int32)) else (p0_2 + (1 : Int32))))])) _
      refine XS.iload X62.here hx rfl (hb hby at_44) rfl ?_
      show Steps p.tables e below (T62.setTop (mkF m 46 #[.val (.int p0_0), .val (.int p0_1), .val (.int p0_2), .val (.int (3 : Int32)), .val (.ref w0_SOUTH), .val (.int (bI ((p0_1 &&& (1 : Int32)) = (0 : Int32)))), .val (.int (p0_2 + (1 : Int32)))] [(.int (p0_2 + (1 : Int32))), (.int (if (p0_1 - (p0_1 / (2 : Int32)) * (2 : Int32)) = (0 : Int32) then (p0_2 + (1 : Int32)) else (p0_2 + (1 : Int32))))])) _
      refine XS.icmpNo X62.here hx rfl (hb hby at_46) rfl (teq hd65).2 ?_
      show Steps p.tables e below (T62.setTop (mkF m 49 #[.val (.int p0_0), .val (.int p0_1), .val (.int p0_2), .val (.int (3 : Int32)), .val (.ref w0_SOUTH), .val (.int (bI ((p0_1 &&& (1 : Int32)) = (0 : Int32)))), .val (.int (p0_2 + (1 : Int32)))] [])) _
      refine XS.iconst X62.here hx rfl (hb hby at_49) ?_
      show Steps p.tables e below (T62.setTop (mkF m 50 #[.val (.int p0_0), .val (.int p0_1), .val (.int p0_2), .val (.int (3 : Int32)), .val (.ref w0_SOUTH), .val (.int (bI ((p0_1 &&& (1 : Int32)) = (0 : Int32)))), .val (.int (p0_2 + (1 : Int32)))] [(.int (1 : Int32))])) _
      refine XS.goto X62.here hx rfl (pc0 := 50) (pc' := 54) rfl (hb hby at_50) (by decide) (by decide) ?_
      show Steps p.tables e below (T62.setTop (mkF m 54 #[.val (.int p0_0), .val (.int p0_1), .val (.int p0_2), .val (.int (3 : Int32)), .val (.ref w0_SOUTH), .val (.int (bI ((p0_1 &&& (1 : Int32)) = (0 : Int32)))), .val (.int (p0_2 + (1 : Int32)))] [(.int (1 : Int32))])) _
      exact retN X62 hx (t := .boolean) Bd.returns (by simp) (hb hby at_54) hr
    · show Q0 Z p0_0 p0_1 p0_2 w0_NORTH w0_NORTH_EAST w0_SOUTH_EAST w0_SOUTH w0_SOUTH_WEST w0_NORTH_WEST h0 n0 _ T62.heap _
      rw [e62]
      exact ⟨rfl, N63⟩
  · have pre66 : ∀ t, Steps p.tables e below (s₁.setTop (mkF m 8 #[.val (.int p0_0), .val (.int p0_1), .val (.int p0_2), .val (.int (4 : Int32)), .unset, .unset, .unset] [])) t → Steps p.tables e below (s₁.setTop (entryFrame m #[(.int p0_0), (.int p0_1), (.int p0_2)] maxLocals)) t := fun t k => pre1 t (castTop (by rw [hk]) k)
    obtain ⟨_, _, ⟨T67, L67, k67, n67⟩, -, X67, ⟨Lc67, hQ67, l67, y67, z67⟩, st67⟩ := Jvm.LawKit.callS X0 hx (y := (⟨"com/example/shieldwall/shieldwall/model/DirectionRowFromPinLaw", "pick", "(I)Lcom/example/shieldwall/shieldwall/model/Direction;"⟩ : MethodName)) hown (mvT hZ (hVV 1 _ rfl)) (mvT hZ (hVV 2 _ rfl)) (mvT hZ (hVV 3 _ rfl)) (mvT hZ (hVV 4 _ rfl)) (by decide) (backOf (W := 0) (rm1_4 l Z a0 hw [] w0_SOUTH_WEST h0 n0 Z0 O0 S_SOUTH_WEST) hZ (hVV 4 _ rfl) (hVV 3 _ rfl) (by decide) (by decide)) (g := (mkF m 9 #[.val (.int p0_0), .val (.int p0_1), .val (.int p0_2), .val (.int (4 : Int32)), .unset, .unset, .unset] [(.int (4 : Int32))])) rfl (by rw [hml]; rfl) (argsL := [(.int (4 : Int32))]) (rest := []) (lenOf pd_0 rfl) rfl (by show 2 * 0 + _ ≤ _; exact Nat.le_of_eq rfl) (hb hby at_9) (fun _ _ => ⟨rfl, e0, (by decide : 0 + 0 ≤ _), (by decide : 0 + 0 ≤ _)⟩)
    dsimp only [Pt.U, Pt.locs, Pt.cells, Pt.slots] at X67 l67 y67 z67 st67 hQ67
    subst l67 y67 z67
    obtain ⟨rfl, N67q, e67⟩ := hQ67
    have N68 := Fr.app N0 N67q
    have pre69 : ∀ t, Steps p.tables e below (T67.setTop (mkF m 12 #[.val (.int p0_0), .val (.int p0_1), .val (.int p0_2), .val (.int (4 : Int32)), .unset, .unset, .unset] [(.ref w0_SOUTH_WEST)])) t → Steps p.tables e below (s₁.setTop (entryFrame m #[(.int p0_0), (.int p0_1), (.int p0_2)] maxLocals)) t := fun t k => pre66 t (by
      show Steps p.tables e below (s₁.setTop (mkF m 8 #[.val (.int p0_0), .val (.int p0_1), .val (.int p0_2), .val (.int (4 : Int32)), .unset, .unset, .unset] [])) _
      refine XS.iloadN X0.here hx rfl (hb hby at_8) rfl ?_
      show Steps p.tables e below (s₁.setTop (mkF m 9 #[.val (.int p0_0), .val (.int p0_1), .val (.int p0_2), .val (.int (4 : Int32)), .unset, .unset, .unset] [(.int (4 : Int32))])) _
      refine st67 _ ?_
      exact k)
    have pre71 : ∀ t, Steps p.tables e below (T67.setTop (mkF m 17 #[.val (.int p0_0), .val (.int p0_1), .val (.int p0_2), .val (.int (4 : Int32)), .val (.ref w0_SOUTH_WEST), .unset, .unset] [(.int (p0_1 &&& (1 : Int32)))])) t → Steps p.tables e below (s₁.setTop (entryFrame m #[(.int p0_0), (.int p0_1), (.int p0_2)] maxLocals)) t := fun t k => pre69 t (by
      show Steps p.tables e below (T67.setTop (mkF m 12 #[.val (.int p0_0), .val (.int p0_1), .val (.int p0_2), .val (.int (4 : Int32)), .unset, .unset, .unset] [(.ref w0_SOUTH_WEST)])) _
      refine XS.astore X67.here hx rfl (hb hby at_12) rfl rfl (l' := #[.val (.int p0_0), .val (.int p0_1), .val (.int p0_2), .val (.int (4 : Int32)), .val (.ref w0_SOUTH_WEST), .unset, .unset]) rfl ?_
      show Steps p.tables e below (T67.setTop (mkF m 14 #[.val (.int p0_0), .val (.int p0_1), .val (.int p0_2), .val (.int (4 : Int32)), .val (.ref w0_SOUTH_WEST), .unset, .unset] [])) _
      refine XS.iloadN X67.here hx rfl (hb hby at_14) rfl ?_
      show Steps p.tables e below (T67.setTop (mkF m 15 #[.val (.int p0_0), .val (.int p0_1), .val (.int p0_2), .val (.int (4 : Int32)), .val (.ref w0_SOUTH_WEST), .unset, .unset] [(.int p0_1)])) _
      refine XS.iconst X67.here hx rfl (hb hby at_15) ?_
      show Steps p.tables e below (T67.setTop (mkF m 16 #[.val (.int p0_0), .val (.int p0_1), .val (.int p0_2), .val (.int (4 : Int32)), .val (.ref w0_SOUTH_WEST), .unset, .unset] [(.int (1 : Int32)), (.int p0_1)])) _
      refine XS.iand X67.here hx rfl (hb hby at_16) rfl ?_
      exact k)
    have pre72 : ∀ t, Steps p.tables e below (T67.setTop (mkF m 25 #[.val (.int p0_0), .val (.int p0_1), .val (.int p0_2), .val (.int (4 : Int32)), .val (.ref w0_SOUTH_WEST), .unset, .unset] [(.int (bI ((p0_1 &&& (1 : Int32)) = (0 : Int32))))])) t → Steps p.tables e below (s₁.setTop (entryFrame m #[(.int p0_0), (.int p0_1), (.int p0_2)] maxLocals)) t := fun t k => pre71 t (by
      by_cases hc70 : (p0_1 &&& (1 : Int32)) = (0 : Int32)
      · show Steps p.tables e below (T67.setTop (mkF m 17 #[.val (.int p0_0), .val (.int p0_1), .val (.int p0_2), .val (.int (4 : Int32)), .val (.ref w0_SOUTH_WEST), .unset, .unset] [(.int (p0_1 &&& (1 : Int32)))])) _
        refine XS.ifNo X67.here hx rfl (hb hby at_17) rfl ((if0 _ _).trans (teq hc70).2) ?_
        show Steps p.tables e below (T67.setTop (mkF m 20 #[.val (.int p0_0), .val (.int p0_1), .val (.int p0_2), .val (.int (4 : Int32)), .val (.ref w0_SOUTH_WEST), .unset, .unset] [])) _
        refine XS.iconst X67.here hx rfl (hb hby at_20) ?_
        show Steps p.tables e below (T67.setTop (mkF m 21 #[.val (.int p0_0), .val (.int p0_1), .val (.int p0_2), .val (.int (4 : Int32)), .val (.ref w0_SOUTH_WEST), .unset, .unset] [(.int (1 : Int32))])) _
        refine XS.goto X67.here hx rfl (pc0 := 21) (pc' := 25) rfl (hb hby at_21) (by decide) (by decide) ?_
        have q73 : (bI ((p0_1 &&& (1 : Int32)) = (0 : Int32))) = (1 : Int32) := (bI_t hc70)
        exact castTop (g := (mkF m 25 #[.val (.int p0_0), .val (.int p0_1), .val (.int p0_2), .val (.int (4 : Int32)), .val (.ref w0_SOUTH_WEST), .unset, .unset] [(.int (1 : Int32))])) (g' := (mkF m 25 #[.val (.int p0_0), .val (.int p0_1), .val (.int p0_2), .val (.int (4 : Int32)), .val (.ref w0_SOUTH_WEST), .unset, .unset] [(.int (bI ((p0_1 &&& (1 : Int32)) = (0 : Int32))))])) (by simp only [q73]) k
      · show Steps p.tables e below (T67.setTop (mkF m 17 #[.val (.int p0_0), .val (.int p0_1), .val (.int p0_2), .val (.int (4 : Int32)), .val (.ref w0_SOUTH_WEST), .unset, .unset] [(.int (p0_1 &&& (1 : Int32)))])) _
        refine XS.ifYes X67.here hx rfl (pc0 := 17) (pc' := 24) rfl (hb hby at_17) rfl ((if0 _ _).trans (feq hc70).2) (by decide) (by decide) ?_
        show Steps p.tables e below (T67.setTop (mkF m 24 #[.val (.int p0_0), .val (.int p0_1), .val (.int p0_2), .val (.int (4 : Int32)), .val (.ref w0_SOUTH_WEST), .unset, .unset] [])) _
        refine XS.iconst X67.here hx rfl (hb hby at_24) ?_
        have q74 : (bI ((p0_1 &&& (1 : Int32)) = (0 : Int32))) = (0 : Int32) := (bI_f hc70)
        exact castTop (g := (mkF m 25 #[.val (.int p0_0), .val (.int p0_1), .val (.int p0_2), .val (.int (4 : Int32)), .val (.ref w0_SOUTH_WEST), .unset, .unset] [(.int (0 : Int32))])) (g' := (mkF m 25 #[.val (.int p0_0), .val (.int p0_1), .val (.int p0_2), .val (.int (4 : Int32)), .val (.ref w0_SOUTH_WEST), .unset, .unset] [(.int (bI ((p0_1 &&& (1 : Int32)) = (0 : Int32))))])) (by simp only [q74]) k)
    obtain ⟨_, _, ⟨T75, L75, k75, n75⟩, -, X75, ⟨Lc75, hQ75, l75, y75, z75⟩, st75⟩ := Jvm.LawKit.callS X67 hx (y := (⟨"com/example/shieldwall/shieldwall/model/DirectionRowFromPinLaw", "expectedStep", "(IZ)I"⟩ : MethodName)) hown (mvT hZ (hVV 8 _ rfl)) (mvT hZ (hVV 9 _ rfl)) (mvT hZ (hVV 3 _ rfl)) (mvT hZ (hVV 10 _ rfl)) (by decide) (backOf (W := 1) (rm2_4 l Z a0 hw [] (bI ((p0_1 &&& (1 : Int32)) = (0 : Int32))) h0 n0 Z0 ) hZ (hVV 10 _ rfl) (hVV 3 _ rfl) (by decide) (by decide)) (g := (mkF m 31 #[.val (.int p0_0), .val (.int p0_1), .val (.int p0_2), .val (.int (4 : Int32)), .val (.ref w0_SOUTH_WEST), .val (.int (bI ((p0_1 &&& (1 : Int32)) = (0 : Int32)))), .unset] [(.int (bI ((p0_1 &&& (1 : Int32)) = (0 : Int32)))), (.int (4 : Int32)), (.int p0_2)])) rfl (by rw [hml]; rfl) (argsL := [(.int (4 : Int32)), (.int (bI ((p0_1 &&& (1 : Int32)) = (0 : Int32))))]) (rest := [(.int p0_2)]) (lenOf pd_1 rfl) rfl (by show 2 * 0 + _ ≤ _; exact Nat.le_of_eq rfl) (hb hby at_31) (fun _ _ => ⟨rfl, e67, (by decide : 0 + 0 ≤ _), (by decide : 0 + 0 ≤ _)⟩)
    dsimp only [Pt.U, Pt.locs, Pt.cells, Pt.slots] at X75 l75 y75 z75 st75 hQ75
    subst l75 y75 z75
    obtain ⟨rfl, N75q, e75⟩ := hQ75
    have N76 := Fr.app N68 N75q
    have pre77 : ∀ t, Steps p.tables e below (T75.setTop (mkF m 34 #[.val (.int p0_0), .val (.int p0_1), .val (.int p0_2), .val (.int (4 : Int32)), .val (.ref w0_SOUTH_WEST), .val (.int (bI ((p0_1 &&& (1 : Int32)) = (0 : Int32)))), .unset] [(.int (bI (¬ ((bI ((p0_1 &&& (1 : Int32)) = (0 : Int32))) = (0 : Int32))))), (.int p0_2)])) t → Steps p.tables e below (s₁.setTop (entryFrame m #[(.int p0_0), (.int p0_1), (.int p0_2)] maxLocals)) t := fun t k => pre72 t (by
      show Steps p.tables e below (T67.setTop (mkF m 25 #[.val (.int p0_0), .val (.int p0_1), .val (.int p0_2), .val (.int (4 : Int32)), .val (.ref w0_SOUTH_WEST), .unset, .unset] [(.int (bI ((p0_1 &&& (1 : Int32)) = (0 : Int32))))])) _
      refine XS.istore X67.here hx rfl (hb hby at_25) rfl (l' := #[.val (.int p0_0), .val (.int p0_1), .val (.int p0_2), .val (.int (4 : Int32)), .val (.ref w0_SOUTH_WEST), .val (.int (bI ((p0_1 &&& (1 : Int32)) = (0 : Int32)))), .unset]) rfl ?_
      show Steps p.tables e below (T67.setTop (mkF m 27 #[.val (.int p0_0), .val (.int p0_1), .val (.int p0_2), .val (.int (4 : Int32)), .val (.ref w0_SOUTH_WEST), .val (.int (bI ((p0_1 &&& (1 : Int32)) = (0 : Int32)))), .unset] [])) _
      refine XS.iloadN X67.here hx rfl (hb hby at_27) rfl ?_
      show Steps p.tables e below (T67.setTop (mkF m 28 #[.val (.int p0_0), .val (.int p0_1), .val (.int p0_2), .val (.int (4 : Int32)), .val (.ref w0_SOUTH_WEST), .val (.int (bI ((p0_1 &&& (1 : Int32)) = (0 : Int32)))), .unset] [(.int p0_2)])) _
      refine XS.iloadN X67.here hx rfl (hb hby at_28) rfl ?_
      show Steps p.tables e below (T67.setTop (mkF m 29 #[.val (.int p0_0), .val (.int p0_1), .val (.int p0_2), .val (.int (4 : Int32)), .val (.ref w0_SOUTH_WEST), .val (.int (bI ((p0_1 &&& (1 : Int32)) = (0 : Int32)))), .unset] [(.int (4 : Int32)), (.int p0_2)])) _
      refine XS.iload X67.here hx rfl (hb hby at_29) rfl ?_
      show Steps p.tables e below (T67.setTop (mkF m 31 #[.val (.int p0_0), .val (.int p0_1), .val (.int p0_2), .val (.int (4 : Int32)), .val (.ref w0_SOUTH_WEST), .val (.int (bI ((p0_1 &&& (1 : Int32)) = (0 : Int32)))), .unset] [(.int (bI ((p0_1 &&& (1 : Int32)) = (0 : Int32)))), (.int (4 : Int32)), (.int p0_2)])) _
      refine st75 _ ?_
      exact k)
    obtain ⟨cq78, kq78, q78a, q78b, q78c⟩ := isOf hZ e75 EE_SOUTH_WEST
    obtain ⟨_, _, ⟨T78, L78, k78, n78⟩, -, X78, ⟨Lc78, hQ78, l78, y78, z78⟩, st78⟩ := X75.virtualBack hx (y := (⟨"com/example/shieldwall/shieldwall/model/Direction", "rowFrom", "(II)I"⟩ : MethodName)) (z := (⟨"com/example/shieldwall/shieldwall/model/Direction", "rowFrom", "(II)I"⟩ : MethodName)) hown (mvT hZ (hVV 11 _ rfl)) (mvT hZ (hVV 12 _ rfl)) (notFace_of_selects (args := #[]) (mvT hZ (hVV 14 _ rfl))) (mvT hZ (hVV 14 _ rfl)) (mvT hZ (hVV 13 _ rfl)) (by decide) (backOf (W := 0) (rm3 l Z a0 hw [] w0_SOUTH_WEST p0_1 p0_2 (1 : Int32) (0 : Int32) h0 n0 Z0 FF_SOUTH_WEST_rowStepFromEven FF_SOUTH_WEST_rowStepFromOdd) hZ (hVV 15 _ rfl) (hVV 6 _ rfl) (by decide) (by decide)) q78a q78c (g := (mkF m 41 #[.val (.int p0_0), .val (.int p0_1), .val (.int p0_2), .val (.int (4 : Int32)), .val (.ref w0_SOUTH_WEST), .val (.int (bI ((p0_1 &&& (1 : Int32)) = (0 : Int32)))), .val (.int (p0_2 + (bI (¬ ((bI ((p0_1 &&& (1 : Int32)) = (0 : Int32))) = (0 : Int32))))))] [(.int p0_2), (.int p0_1), (.ref w0_SOUTH_WEST)])) rfl (by rw [hml]; rfl) (Steps.refl _) (argsL := [(.int p0_1), (.int p0_2)]) (rest := []) (lenOf pd_2 rfl) rfl (by show 2 * 0 + _ ≤ _; exact Nat.le_of_eq rfl) (hb hby at_41) (fun _ _ => ⟨rfl, e75, (by decide : 0 + 0 ≤ _), (by decide : 0 + 0 ≤ _)⟩)
    dsimp only [Pt.U, Pt.locs, Pt.cells, Pt.slots] at X78 l78 y78 z78 st78 hQ78
    subst l78 y78 z78
    obtain ⟨rfl, N78q, e78⟩ := hQ78
    have N79 := Fr.app N76 N78q
    have pre80 : ∀ t, Steps p.tables e below (T78.setTop (mkF m 44 #[.val (.int p0_0), .val (.int p0_1), .val (.int p0_2), .val (.int (4 : Int32)), .val (.ref w0_SOUTH_WEST), .val (.int (bI ((p0_1 &&& (1 : Int32)) = (0 : Int32)))), .val (.int (p0_2 + (bI (¬ ((bI ((p0_1 &&& (1 : Int32)) = (0 : Int32))) = (0 : Int32))))))] [(.int (if (p0_1 - (p0_1 / (2 : Int32)) * (2 : Int32)) = (0 : Int32) then (p0_2 + (1 : Int32)) else (p0_2 + (0 : Int32))))])) t → Steps p.tables e below (s₁.setTop (entryFrame m #[(.int p0_0), (.int p0_1), (.int p0_2)] maxLocals)) t := fun t k => pre77 t (by
      show Steps p.tables e below (T75.setTop (mkF m 34 #[.val (.int p0_0), .val (.int p0_1), .val (.int p0_2), .val (.int (4 : Int32)), .val (.ref w0_SOUTH_WEST), .val (.int (bI ((p0_1 &&& (1 : Int32)) = (0 : Int32)))), .unset] [(.int (bI (¬ ((bI ((p0_1 &&& (1 : Int32)) = (0 : Int32))) = (0 : Int32))))), (.int p0_2)])) _
      refine XS.iadd X75.here hx rfl (hb hby at_34) rfl ?_
      show Steps p.tables e below (T75.setTop (mkF m 35 #[.val (.int p0_0), .val (.int p0_1), .val (.int p0_2), .val (.int (4 : Int32)), .val (.ref w0_SOUTH_WEST), .val (.int (bI ((p0_1 &&& (1 : Int32)) = (0 : Int32)))), .unset] [(.int (p0_2 + (bI (¬ ((bI ((p0_1 &&& (1 : Int32)) = (0 : Int32))) = (0 : Int32))))))])) _
      refine XS.istore X75.here hx rfl (hb hby at_35) rfl (l' := #[.val (.int p0_0), .val (.int p0_1), .val (.int p0_2), .val (.int (4 : Int32)), .val (.ref w0_SOUTH_WEST), .val (.int (bI ((p0_1 &&& (1 : Int32)) = (0 : Int32)))), .val (.int (p0_2 + (bI (¬ ((bI ((p0_1 &&& (1 : Int32)) = (0 : Int32))) = (0 : Int32))))))]) rfl ?_
      show Steps p.tables e below (T75.setTop (mkF m 37 #[.val (.int p0_0), .val (.int p0_1), .val (.int p0_2), .val (.int (4 : Int32)), .val (.ref w0_SOUTH_WEST), .val (.int (bI ((p0_1 &&& (1 : Int32)) = (0 : Int32)))), .val (.int (p0_2 + (bI (¬ ((bI ((p0_1 &&& (1 : Int32)) = (0 : Int32))) = (0 : Int32))))))] [])) _
      refine XS.aload X75.here hx rfl (hb hby at_37) rfl rfl ?_
      show Steps p.tables e below (T75.setTop (mkF m 39 #[.val (.int p0_0), .val (.int p0_1), .val (.int p0_2), .val (.int (4 : Int32)), .val (.ref w0_SOUTH_WEST), .val (.int (bI ((p0_1 &&& (1 : Int32)) = (0 : Int32)))), .val (.int (p0_2 + (bI (¬ ((bI ((p0_1 &&& (1 : Int32)) = (0 : Int32))) = (0 : Int32))))))] [(.ref w0_SOUTH_WEST)])) _
      refine XS.iloadN X75.here hx rfl (hb hby at_39) rfl ?_
      show Steps p.tables e below (T75.setTop (mkF m 40 #[.val (.int p0_0), .val (.int p0_1), .val (.int p0_2), .val (.int (4 : Int32)), .val (.ref w0_SOUTH_WEST), .val (.int (bI ((p0_1 &&& (1 : Int32)) = (0 : Int32)))), .val (.int (p0_2 + (bI (¬ ((bI ((p0_1 &&& (1 : Int32)) = (0 : Int32))) = (0 : Int32))))))] [(.int p0_1), (.ref w0_SOUTH_WEST)])) _
      refine XS.iloadN X75.here hx rfl (hb hby at_40) rfl ?_
      show Steps p.tables e below (T75.setTop (mkF m 41 #[.val (.int p0_0), .val (.int p0_1), .val (.int p0_2), .val (.int (4 : Int32)), .val (.ref w0_SOUTH_WEST), .val (.int (bI ((p0_1 &&& (1 : Int32)) = (0 : Int32)))), .val (.int (p0_2 + (bI (¬ ((bI ((p0_1 &&& (1 : Int32)) = (0 : Int32))) = (0 : Int32))))))] [(.int p0_2), (.int p0_1), (.ref w0_SOUTH_WEST)])) _
      refine st78.trans ?_
      exact k)
    have hd81 : (if (p0_1 - (p0_1 / (2 : Int32)) * (2 : Int32)) = (0 : Int32) then (p0_2 + (1 : Int32)) else (p0_2 + (0 : Int32))) = (p0_2 + (bI (¬ ((bI ((p0_1 &&& (1 : Int32)) = (0 : Int32))) = (0 : Int32))))) := by
      exact own_finB _ _
    obtain ⟨fs, hr, hrun, hended, hW, hsame⟩ := X78.leave (v := some (.int (1 : Int32))) (fun h => by rw [Bd.returns] at h; cases h)
    refine ⟨_, _, pre80 _ ?_, hrun, hended, _, _, rfl, ?_, ⟨_, rfl⟩, hW, hsame.mono (by decide) (by decide)⟩
    · show Steps p.tables e below (T78.setTop (mkF m 44 #[.val (.int p0_0), .val (.int p0_1), .val (.int p0_2), .val (.int (4 : Int32)), .val (.ref w0_SOUTH_WEST), .val (.int (bI ((p0_1 &&& (1 : Int32)) = (0 : Int32)))), .val (.int (p0_2 + (bI (¬ ((bI ((p0_1 &&& (1 : Int32)) = (0 : Int32))) = (0 : Int32))))))] [(.int (if (p0_1 - (p0_1 / (2 : Int32)) * (2 : Int32)) = (0 : Int32) then (p0_2 + (1 : Int32)) else (p0_2 + (0 : Int32))))])) _
      refine XS.iload X78.here hx rfl (hb hby at_44) rfl ?_
      show Steps p.tables e below (T78.setTop (mkF m 46 #[.val (.int p0_0), .val (.int p0_1), .val (.int p0_2), .val (.int (4 : Int32)), .val (.ref w0_SOUTH_WEST), .val (.int (bI ((p0_1 &&& (1 : Int32)) = (0 : Int32)))), .val (.int (p0_2 + (bI (¬ ((bI ((p0_1 &&& (1 : Int32)) = (0 : Int32))) = (0 : Int32))))))] [(.int (p0_2 + (bI (¬ ((bI ((p0_1 &&& (1 : Int32)) = (0 : Int32))) = (0 : Int32)))))), (.int (if (p0_1 - (p0_1 / (2 : Int32)) * (2 : Int32)) = (0 : Int32) then (p0_2 + (1 : Int32)) else (p0_2 + (0 : Int32))))])) _
      refine XS.icmpNo X78.here hx rfl (hb hby at_46) rfl (teq hd81).2 ?_
      show Steps p.tables e below (T78.setTop (mkF m 49 #[.val (.int p0_0), .val (.int p0_1), .val (.int p0_2), .val (.int (4 : Int32)), .val (.ref w0_SOUTH_WEST), .val (.int (bI ((p0_1 &&& (1 : Int32)) = (0 : Int32)))), .val (.int (p0_2 + (bI (¬ ((bI ((p0_1 &&& (1 : Int32)) = (0 : Int32))) = (0 : Int32))))))] [])) _
      refine XS.iconst X78.here hx rfl (hb hby at_49) ?_
      show Steps p.tables e below (T78.setTop (mkF m 50 #[.val (.int p0_0), .val (.int p0_1), .val (.int p0_2), .val (.int (4 : Int32)), .val (.ref w0_SOUTH_WEST), .val (.int (bI ((p0_1 &&& (1 : Int32)) = (0 : Int32)))), .val (.int (p0_2 + (bI (¬ ((bI ((p0_1 &&& (1 : Int32)) = (0 : Int32))) = (0 : Int32))))))] [(.int (1 : Int32))])) _
      refine XS.goto X78.here hx rfl (pc0 := 50) (pc' := 54) rfl (hb hby at_50) (by decide) (by decide) ?_
      show Steps p.tables e below (T78.setTop (mkF m 54 #[.val (.int p0_0), .val (.int p0_1), .val (.int p0_2), .val (.int (4 : Int32)), .val (.ref w0_SOUTH_WEST), .val (.int (bI ((p0_1 &&& (1 : Int32)) = (0 : Int32)))), .val (.int (p0_2 + (bI (¬ ((bI ((p0_1 &&& (1 : Int32)) = (0 : Int32))) = (0 : Int32))))))] [(.int (1 : Int32))])) _
      exact retN X78 hx (t := .boolean) Bd.returns (by simp) (hb hby at_54) hr
    · show Q0 Z p0_0 p0_1 p0_2 w0_NORTH w0_NORTH_EAST w0_SOUTH_EAST w0_SOUTH w0_SOUTH_WEST w0_NORTH_WEST h0 n0 _ T78.heap _
      rw [e78]
      exact ⟨rfl, N79⟩
  · have pre82 : ∀ t, Steps p.tables e below (s₁.setTop (mkF m 8 #[.val (.int p0_0), .val (.int p0_1), .val (.int p0_2), .val (.int (5 : Int32)), .unset, .unset, .unset] [])) t → Steps p.tables e below (s₁.setTop (entryFrame m #[(.int p0_0), (.int p0_1), (.int p0_2)] maxLocals)) t := fun t k => pre1 t (castTop (by rw [hk]) k)
    obtain ⟨_, _, ⟨T83, L83, k83, n83⟩, -, X83, ⟨Lc83, hQ83, l83, y83, z83⟩, st83⟩ := Jvm.LawKit.callS X0 hx (y := (⟨"com/example/shieldwall/shieldwall/model/DirectionRowFromPinLaw", "pick", "(I)Lcom/example/shieldwall/shieldwall/model/Direction;"⟩ : MethodName)) hown (mvT hZ (hVV 1 _ rfl)) (mvT hZ (hVV 2 _ rfl)) (mvT hZ (hVV 3 _ rfl)) (mvT hZ (hVV 4 _ rfl)) (by decide) (backOf (W := 0) (rm1_5 l Z a0 hw [] w0_NORTH_WEST h0 n0 Z0 O0 S_NORTH_WEST) hZ (hVV 4 _ rfl) (hVV 3 _ rfl) (by decide) (by decide)) (g := (mkF m 9 #[.val (.int p0_0), .val (.int p0_1), .val (.int p0_2), .val (.int (5 : Int32)), .unset, .unset, .unset] [(.int (5 : Int32))])) rfl (by rw [hml]; rfl) (argsL := [(.int (5 : Int32))]) (rest := []) (lenOf pd_0 rfl) rfl (by show 2 * 0 + _ ≤ _; exact Nat.le_of_eq rfl) (hb hby at_9) (fun _ _ => ⟨rfl, e0, (by decide : 0 + 0 ≤ _), (by decide : 0 + 0 ≤ _)⟩)
    dsimp only [Pt.U, Pt.locs, Pt.cells, Pt.slots] at X83 l83 y83 z83 st83 hQ83
    subst l83 y83 z83
    obtain ⟨rfl, N83q, e83⟩ := hQ83
    have N84 := Fr.app N0 N83q
    have pre85 : ∀ t, Steps p.tables e below (T83.setTop (mkF m 12 #[.val (.int p0_0), .val (.int p0_1), .val (.int p0_2), .val (.int (5 : Int32)), .unset, .unset, .unset] [(.ref w0_NORTH_WEST)])) t → Steps p.tables e below (s₁.setTop (entryFrame m #[(.int p0_0), (.int p0_1), (.int p0_2)] maxLocals)) t := fun t k => pre82 t (by
      show Steps p.tables e below (s₁.setTop (mkF m 8 #[.val (.int p0_0), .val (.int p0_1), .val (.int p0_2), .val (.int (5 : Int32)), .unset, .unset, .unset] [])) _
      refine XS.iloadN X0.here hx rfl (hb hby at_8) rfl ?_
      show Steps p.tables e below (s₁.setTop (mkF m 9 #[.val (.int p0_0), .val (.int p0_1), .val (.int p0_2), .val (.int (5 : Int32)), .unset, .unset, .unset] [(.int (5 : Int32))])) _
      refine st83 _ ?_
      exact k)
    have pre87 : ∀ t, Steps p.tables e below (T83.setTop (mkF m 17 #[.val (.int p0_0), .val (.int p0_1), .val (.int p0_2), .val (.int (5 : Int32)), .val (.ref w0_NORTH_WEST), .unset, .unset] [(.int (p0_1 &&& (1 : Int32)))])) t → Steps p.tables e below (s₁.setTop (entryFrame m #[(.int p0_0), (.int p0_1), (.int p0_2)] maxLocals)) t := fun t k => pre85 t (by
      show Steps p.tables e below (T83.setTop (mkF m 12 #[.val (.int p0_0), .val (.int p0_1), .val (.int p0_2), .val (.int (5 : Int32)), .unset, .unset, .unset] [(.ref w0_NORTH_WEST)])) _
      refine XS.astore X83.here hx rfl (hb hby at_12) rfl rfl (l' := #[.val (.int p0_0), .val (.int p0_1), .val (.int p0_2), .val (.int (5 : Int32)), .val (.ref w0_NORTH_WEST), .unset, .unset]) rfl ?_
      show Steps p.tables e below (T83.setTop (mkF m 14 #[.val (.int p0_0), .val (.int p0_1), .val (.int p0_2), .val (.int (5 : Int32)), .val (.ref w0_NORTH_WEST), .unset, .unset] [])) _
      refine XS.iloadN X83.here hx rfl (hb hby at_14) rfl ?_
      show Steps p.tables e below (T83.setTop (mkF m 15 #[.val (.int p0_0), .val (.int p0_1), .val (.int p0_2), .val (.int (5 : Int32)), .val (.ref w0_NORTH_WEST), .unset, .unset] [(.int p0_1)])) _
      refine XS.iconst X83.here hx rfl (hb hby at_15) ?_
      show Steps p.tables e below (T83.setTop (mkF m 16 #[.val (.int p0_0), .val (.int p0_1), .val (.int p0_2), .val (.int (5 : Int32)), .val (.ref w0_NORTH_WEST), .unset, .unset] [(.int (1 : Int32)), (.int p0_1)])) _
      refine XS.iand X83.here hx rfl (hb hby at_16) rfl ?_
      exact k)
    have pre88 : ∀ t, Steps p.tables e below (T83.setTop (mkF m 25 #[.val (.int p0_0), .val (.int p0_1), .val (.int p0_2), .val (.int (5 : Int32)), .val (.ref w0_NORTH_WEST), .unset, .unset] [(.int (bI ((p0_1 &&& (1 : Int32)) = (0 : Int32))))])) t → Steps p.tables e below (s₁.setTop (entryFrame m #[(.int p0_0), (.int p0_1), (.int p0_2)] maxLocals)) t := fun t k => pre87 t (by
      by_cases hc86 : (p0_1 &&& (1 : Int32)) = (0 : Int32)
      · show Steps p.tables e below (T83.setTop (mkF m 17 #[.val (.int p0_0), .val (.int p0_1), .val (.int p0_2), .val (.int (5 : Int32)), .val (.ref w0_NORTH_WEST), .unset, .unset] [(.int (p0_1 &&& (1 : Int32)))])) _
        refine XS.ifNo X83.here hx rfl (hb hby at_17) rfl ((if0 _ _).trans (teq hc86).2) ?_
        show Steps p.tables e below (T83.setTop (mkF m 20 #[.val (.int p0_0), .val (.int p0_1), .val (.int p0_2), .val (.int (5 : Int32)), .val (.ref w0_NORTH_WEST), .unset, .unset] [])) _
        refine XS.iconst X83.here hx rfl (hb hby at_20) ?_
        show Steps p.tables e below (T83.setTop (mkF m 21 #[.val (.int p0_0), .val (.int p0_1), .val (.int p0_2), .val (.int (5 : Int32)), .val (.ref w0_NORTH_WEST), .unset, .unset] [(.int (1 : Int32))])) _
        refine XS.goto X83.here hx rfl (pc0 := 21) (pc' := 25) rfl (hb hby at_21) (by decide) (by decide) ?_
        have q89 : (bI ((p0_1 &&& (1 : Int32)) = (0 : Int32))) = (1 : Int32) := (bI_t hc86)
        exact castTop (g := (mkF m 25 #[.val (.int p0_0), .val (.int p0_1), .val (.int p0_2), .val (.int (5 : Int32)), .val (.ref w0_NORTH_WEST), .unset, .unset] [(.int (1 : Int32))])) (g' := (mkF m 25 #[.val (.int p0_0), .val (.int p0_1), .val (.int p0_2), .val (.int (5 : Int32)), .val (.ref w0_NORTH_WEST), .unset, .unset] [(.int (bI ((p0_1 &&& (1 : Int32)) = (0 : Int32))))])) (by simp only [q89]) k
      · show Steps p.tables e below (T83.setTop (mkF m 17 #[.val (.int p0_0), .val (.int p0_1), .val (.int p0_2), .val (.int (5 : Int32)), .val (.ref w0_NORTH_WEST), .unset, .unset] [(.int (p0_1 &&& (1 : Int32)))])) _
        refine XS.ifYes X83.here hx rfl (pc0 := 17) (pc' := 24) rfl (hb hby at_17) rfl ((if0 _ _).trans (feq hc86).2) (by decide) (by decide) ?_
        show Steps p.tables e below (T83.setTop (mkF m 24 #[.val (.int p0_0), .val (.int p0_1), .val (.int p0_2), .val (.int (5 : Int32)), .val (.ref w0_NORTH_WEST), .unset, .unset] [])) _
        refine XS.iconst X83.here hx rfl (hb hby at_24) ?_
        have q90 : (bI ((p0_1 &&& (1 : Int32)) = (0 : Int32))) = (0 : Int32) := (bI_f hc86)
        exact castTop (g := (mkF m 25 #[.val (.int p0_0), .val (.int p0_1), .val (.int p0_2), .val (.int (5 : Int32)), .val (.ref w0_NORTH_WEST), .unset, .unset] [(.int (0 : Int32))])) (g' := (mkF m 25 #[.val (.int p0_0), .val (.int p0_1), .val (.int p0_2), .val (.int (5 : Int32)), .val (.ref w0_NORTH_WEST), .unset, .unset] [(.int (bI ((p0_1 &&& (1 : Int32)) = (0 : Int32))))])) (by simp only [q90]) k)
    obtain ⟨_, _, ⟨T91, L91, k91, n91⟩, -, X91, ⟨Lc91, hQ91, l91, y91, z91⟩, st91⟩ := Jvm.LawKit.callS X83 hx (y := (⟨"com/example/shieldwall/shieldwall/model/DirectionRowFromPinLaw", "expectedStep", "(IZ)I"⟩ : MethodName)) hown (mvT hZ (hVV 8 _ rfl)) (mvT hZ (hVV 9 _ rfl)) (mvT hZ (hVV 3 _ rfl)) (mvT hZ (hVV 10 _ rfl)) (by decide) (backOf (W := 1) (rm2_5 l Z a0 hw [] (bI ((p0_1 &&& (1 : Int32)) = (0 : Int32))) h0 n0 Z0 ) hZ (hVV 10 _ rfl) (hVV 3 _ rfl) (by decide) (by decide)) (g := (mkF m 31 #[.val (.int p0_0), .val (.int p0_1), .val (.int p0_2), .val (.int (5 : Int32)), .val (.ref w0_NORTH_WEST), .val (.int (bI ((p0_1 &&& (1 : Int32)) = (0 : Int32)))), .unset] [(.int (bI ((p0_1 &&& (1 : Int32)) = (0 : Int32)))), (.int (5 : Int32)), (.int p0_2)])) rfl (by rw [hml]; rfl) (argsL := [(.int (5 : Int32)), (.int (bI ((p0_1 &&& (1 : Int32)) = (0 : Int32))))]) (rest := [(.int p0_2)]) (lenOf pd_1 rfl) rfl (by show 2 * 0 + _ ≤ _; exact Nat.le_of_eq rfl) (hb hby at_31) (fun _ _ => ⟨rfl, e83, (by decide : 0 + 0 ≤ _), (by decide : 0 + 0 ≤ _)⟩)
    dsimp only [Pt.U, Pt.locs, Pt.cells, Pt.slots] at X91 l91 y91 z91 st91 hQ91
    subst l91 y91 z91
    obtain ⟨rfl, N91q, e91⟩ := hQ91
    have N92 := Fr.app N84 N91q
    have pre93 : ∀ t, Steps p.tables e below (T91.setTop (mkF m 34 #[.val (.int p0_0), .val (.int p0_1), .val (.int p0_2), .val (.int (5 : Int32)), .val (.ref w0_NORTH_WEST), .val (.int (bI ((p0_1 &&& (1 : Int32)) = (0 : Int32)))), .unset] [(.int (if (bI ((p0_1 &&& (1 : Int32)) = (0 : Int32))) = (0 : Int32) then (-1 : Int32) else (0 : Int32))), (.int p0_2)])) t → Steps p.tables e below (s₁.setTop (entryFrame m #[(.int p0_0), (.int p0_1), (.int p0_2)] maxLocals)) t := fun t k => pre88 t (by
      show Steps p.tables e below (T83.setTop (mkF m 25 #[.val (.int p0_0), .val (.int p0_1), .val (.int p0_2), .val (.int (5 : Int32)), .val (.ref w0_NORTH_WEST), .unset, .unset] [(.int (bI ((p0_1 &&& (1 : Int32)) = (0 : Int32))))])) _
      refine XS.istore X83.here hx rfl (hb hby at_25) rfl (l' := #[.val (.int p0_0), .val (.int p0_1), .val (.int p0_2), .val (.int (5 : Int32)), .val (.ref w0_NORTH_WEST), .val (.int (bI ((p0_1 &&& (1 : Int32)) = (0 : Int32)))), .unset]) rfl ?_
      show Steps p.tables e below (T83.setTop (mkF m 27 #[.val (.int p0_0), .val (.int p0_1), .val (.int p0_2), .val (.int (5 : Int32)), .val (.ref w0_NORTH_WEST), .val (.int (bI ((p0_1 &&& (1 : Int32)) = (0 : Int32)))), .unset] [])) _
      refine XS.iloadN X83.here hx rfl (hb hby at_27) rfl ?_
      show Steps p.tables e below (T83.setTop (mkF m 28 #[.val (.int p0_0), .val (.int p0_1), .val (.int p0_2), .val (.int (5 : Int32)), .val (.ref w0_NORTH_WEST), .val (.int (bI ((p0_1 &&& (1 : Int32)) = (0 : Int32)))), .unset] [(.int p0_2)])) _
      refine XS.iloadN X83.here hx rfl (hb hby at_28) rfl ?_
      show Steps p.tables e below (T83.setTop (mkF m 29 #[.val (.int p0_0), .val (.int p0_1), .val (.int p0_2), .val (.int (5 : Int32)), .val (.ref w0_NORTH_WEST), .val (.int (bI ((p0_1 &&& (1 : Int32)) = (0 : Int32)))), .unset] [(.int (5 : Int32)), (.int p0_2)])) _
      refine XS.iload X83.here hx rfl (hb hby at_29) rfl ?_
      show Steps p.tables e below (T83.setTop (mkF m 31 #[.val (.int p0_0), .val (.int p0_1), .val (.int p0_2), .val (.int (5 : Int32)), .val (.ref w0_NORTH_WEST), .val (.int (bI ((p0_1 &&& (1 : Int32)) = (0 : Int32)))), .unset] [(.int (bI ((p0_1 &&& (1 : Int32)) = (0 : Int32)))), (.int (5 : Int32)), (.int p0_2)])) _
      refine st91 _ ?_
      exact k)
    obtain ⟨cq94, kq94, q94a, q94b, q94c⟩ := isOf hZ e91 EE_NORTH_WEST
    obtain ⟨_, _, ⟨T94, L94, k94, n94⟩, -, X94, ⟨Lc94, hQ94, l94, y94, z94⟩, st94⟩ := X91.virtualBack hx (y := (⟨"com/example/shieldwall/shieldwall/model/Direction", "rowFrom", "(II)I"⟩ : MethodName)) (z := (⟨"com/example/shieldwall/shieldwall/model/Direction", "rowFrom", "(II)I"⟩ : MethodName)) hown (mvT hZ (hVV 11 _ rfl)) (mvT hZ (hVV 12 _ rfl)) (notFace_of_selects (args := #[]) (mvT hZ (hVV 14 _ rfl))) (mvT hZ (hVV 14 _ rfl)) (mvT hZ (hVV 13 _ rfl)) (by decide) (backOf (W := 0) (rm3 l Z a0 hw [] w0_NORTH_WEST p0_1 p0_2 (0 : Int32) (-1 : Int32) h0 n0 Z0 FF_NORTH_WEST_rowStepFromEven FF_NORTH_WEST_rowStepFromOdd) hZ (hVV 15 _ rfl) (hVV 6 _ rfl) (by decide) (by decide)) q94a q94c (g := (mkF m 41 #[.val (.int p0_0), .val (.int p0_1), .val (.int p0_2), .val (.int (5 : Int32)), .val (.ref w0_NORTH_WEST), .val (.int (bI ((p0_1 &&& (1 : Int32)) = (0 : Int32)))), .val (.int (p0_2 + (if (bI ((p0_1 &&& (1 : Int32)) = (0 : Int32))) = (0 : Int32) then (-1 : Int32) else (0 : Int32))))] [(.int p0_2), (.int p0_1), (.ref w0_NORTH_WEST)])) rfl (by rw [hml]; rfl) (Steps.refl _) (argsL := [(.int p0_1), (.int p0_2)]) (rest := []) (lenOf pd_2 rfl) rfl (by show 2 * 0 + _ ≤ _; exact Nat.le_of_eq rfl) (hb hby at_41) (fun _ _ => ⟨rfl, e91, (by decide : 0 + 0 ≤ _), (by decide : 0 + 0 ≤ _)⟩)
    dsimp only [Pt.U, Pt.locs, Pt.cells, Pt.slots] at X94 l94 y94 z94 st94 hQ94
    subst l94 y94 z94
    obtain ⟨rfl, N94q, e94⟩ := hQ94
    have N95 := Fr.app N92 N94q
    have pre96 : ∀ t, Steps p.tables e below (T94.setTop (mkF m 44 #[.val (.int p0_0), .val (.int p0_1), .val (.int p0_2), .val (.int (5 : Int32)), .val (.ref w0_NORTH_WEST), .val (.int (bI ((p0_1 &&& (1 : Int32)) = (0 : Int32)))), .val (.int (p0_2 + (if (bI ((p0_1 &&& (1 : Int32)) = (0 : Int32))) = (0 : Int32) then (-1 : Int32) else (0 : Int32))))] [(.int (if (p0_1 - (p0_1 / (2 : Int32)) * (2 : Int32)) = (0 : Int32) then (p0_2 + (0 : Int32)) else (p0_2 + (-1 : Int32))))])) t → Steps p.tables e below (s₁.setTop (entryFrame m #[(.int p0_0), (.int p0_1), (.int p0_2)] maxLocals)) t := fun t k => pre93 t (by
      show Steps p.tables e below (T91.setTop (mkF m 34 #[.val (.int p0_0), .val (.int p0_1), .val (.int p0_2), .val (.int (5 : Int32)), .val (.ref w0_NORTH_WEST), .val (.int (bI ((p0_1 &&& (1 : Int32)) = (0 : Int32)))), .unset] [(.int (if (bI ((p0_1 &&& (1 : Int32)) = (0 : Int32))) = (0 : Int32) then (-1 : Int32) else (0 : Int32))), (.int p0_2)])) _
      refine XS.iadd X91.here hx rfl (hb hby at_34) rfl ?_
      show Steps p.tables e below (T91.setTop (mkF m 35 #[.val (.int p0_0), .val (.int p0_1), .val (.int p0_2), .val (.int (5 : Int32)), .val (.ref w0_NORTH_WEST), .val (.int (bI ((p0_1 &&& (1 : Int32)) = (0 : Int32)))), .unset] [(.int (p0_2 + (if (bI ((p0_1 &&& (1 : Int32)) = (0 : Int32))) = (0 : Int32) then (-1 : Int32) else (0 : Int32))))])) _
      refine XS.istore X91.here hx rfl (hb hby at_35) rfl (l' := #[.val (.int p0_0), .val (.int p0_1), .val (.int p0_2), .val (.int (5 : Int32)), .val (.ref w0_NORTH_WEST), .val (.int (bI ((p0_1 &&& (1 : Int32)) = (0 : Int32)))), .val (.int (p0_2 + (if (bI ((p0_1 &&& (1 : Int32)) = (0 : Int32))) = (0 : Int32) then (-1 : Int32) else (0 : Int32))))]) rfl ?_
      show Steps p.tables e below (T91.setTop (mkF m 37 #[.val (.int p0_0), .val (.int p0_1), .val (.int p0_2), .val (.int (5 : Int32)), .val (.ref w0_NORTH_WEST), .val (.int (bI ((p0_1 &&& (1 : Int32)) = (0 : Int32)))), .val (.int (p0_2 + (if (bI ((p0_1 &&& (1 : Int32)) = (0 : Int32))) = (0 : Int32) then (-1 : Int32) else (0 : Int32))))] [])) _
      refine XS.aload X91.here hx rfl (hb hby at_37) rfl rfl ?_
      show Steps p.tables e below (T91.setTop (mkF m 39 #[.val (.int p0_0), .val (.int p0_1), .val (.int p0_2), .val (.int (5 : Int32)), .val (.ref w0_NORTH_WEST), .val (.int (bI ((p0_1 &&& (1 : Int32)) = (0 : Int32)))), .val (.int (p0_2 + (if (bI ((p0_1 &&& (1 : Int32)) = (0 : Int32))) = (0 : Int32) then (-1 : Int32) else (0 : Int32))))] [(.ref w0_NORTH_WEST)])) _
      refine XS.iloadN X91.here hx rfl (hb hby at_39) rfl ?_
      show Steps p.tables e below (T91.setTop (mkF m 40 #[.val (.int p0_0), .val (.int p0_1), .val (.int p0_2), .val (.int (5 : Int32)), .val (.ref w0_NORTH_WEST), .val (.int (bI ((p0_1 &&& (1 : Int32)) = (0 : Int32)))), .val (.int (p0_2 + (if (bI ((p0_1 &&& (1 : Int32)) = (0 : Int32))) = (0 : Int32) then (-1 : Int32) else (0 : Int32))))] [(.int p0_1), (.ref w0_NORTH_WEST)])) _
      refine XS.iloadN X91.here hx rfl (hb hby at_40) rfl ?_
      show Steps p.tables e below (T91.setTop (mkF m 41 #[.val (.int p0_0), .val (.int p0_1), .val (.int p0_2), .val (.int (5 : Int32)), .val (.ref w0_NORTH_WEST), .val (.int (bI ((p0_1 &&& (1 : Int32)) = (0 : Int32)))), .val (.int (p0_2 + (if (bI ((p0_1 &&& (1 : Int32)) = (0 : Int32))) = (0 : Int32) then (-1 : Int32) else (0 : Int32))))] [(.int p0_2), (.int p0_1), (.ref w0_NORTH_WEST)])) _
      refine st94.trans ?_
      exact k)
    have hd97 : (if (p0_1 - (p0_1 / (2 : Int32)) * (2 : Int32)) = (0 : Int32) then (p0_2 + (0 : Int32)) else (p0_2 + (-1 : Int32))) = (p0_2 + (if (bI ((p0_1 &&& (1 : Int32)) = (0 : Int32))) = (0 : Int32) then (-1 : Int32) else (0 : Int32))) := by
      exact own_finA _ _
    obtain ⟨fs, hr, hrun, hended, hW, hsame⟩ := X94.leave (v := some (.int (1 : Int32))) (fun h => by rw [Bd.returns] at h; cases h)
    refine ⟨_, _, pre96 _ ?_, hrun, hended, _, _, rfl, ?_, ⟨_, rfl⟩, hW, hsame.mono (by decide) (by decide)⟩
    · show Steps p.tables e below (T94.setTop (mkF m 44 #[.val (.int p0_0), .val (.int p0_1), .val (.int p0_2), .val (.int (5 : Int32)), .val (.ref w0_NORTH_WEST), .val (.int (bI ((p0_1 &&& (1 : Int32)) = (0 : Int32)))), .val (.int (p0_2 + (if (bI ((p0_1 &&& (1 : Int32)) = (0 : Int32))) = (0 : Int32) then (-1 : Int32) else (0 : Int32))))] [(.int (if (p0_1 - (p0_1 / (2 : Int32)) * (2 : Int32)) = (0 : Int32) then (p0_2 + (0 : Int32)) else (p0_2 + (-1 : Int32))))])) _
      refine XS.iload X94.here hx rfl (hb hby at_44) rfl ?_
      show Steps p.tables e below (T94.setTop (mkF m 46 #[.val (.int p0_0), .val (.int p0_1), .val (.int p0_2), .val (.int (5 : Int32)), .val (.ref w0_NORTH_WEST), .val (.int (bI ((p0_1 &&& (1 : Int32)) = (0 : Int32)))), .val (.int (p0_2 + (if (bI ((p0_1 &&& (1 : Int32)) = (0 : Int32))) = (0 : Int32) then (-1 : Int32) else (0 : Int32))))] [(.int (p0_2 + (if (bI ((p0_1 &&& (1 : Int32)) = (0 : Int32))) = (0 : Int32) then (-1 : Int32) else (0 : Int32)))), (.int (if (p0_1 - (p0_1 / (2 : Int32)) * (2 : Int32)) = (0 : Int32) then (p0_2 + (0 : Int32)) else (p0_2 + (-1 : Int32))))])) _
      refine XS.icmpNo X94.here hx rfl (hb hby at_46) rfl (teq hd97).2 ?_
      show Steps p.tables e below (T94.setTop (mkF m 49 #[.val (.int p0_0), .val (.int p0_1), .val (.int p0_2), .val (.int (5 : Int32)), .val (.ref w0_NORTH_WEST), .val (.int (bI ((p0_1 &&& (1 : Int32)) = (0 : Int32)))), .val (.int (p0_2 + (if (bI ((p0_1 &&& (1 : Int32)) = (0 : Int32))) = (0 : Int32) then (-1 : Int32) else (0 : Int32))))] [])) _
      refine XS.iconst X94.here hx rfl (hb hby at_49) ?_
      show Steps p.tables e below (T94.setTop (mkF m 50 #[.val (.int p0_0), .val (.int p0_1), .val (.int p0_2), .val (.int (5 : Int32)), .val (.ref w0_NORTH_WEST), .val (.int (bI ((p0_1 &&& (1 : Int32)) = (0 : Int32)))), .val (.int (p0_2 + (if (bI ((p0_1 &&& (1 : Int32)) = (0 : Int32))) = (0 : Int32) then (-1 : Int32) else (0 : Int32))))] [(.int (1 : Int32))])) _
      refine XS.goto X94.here hx rfl (pc0 := 50) (pc' := 54) rfl (hb hby at_50) (by decide) (by decide) ?_
      show Steps p.tables e below (T94.setTop (mkF m 54 #[.val (.int p0_0), .val (.int p0_1), .val (.int p0_2), .val (.int (5 : Int32)), .val (.ref w0_NORTH_WEST), .val (.int (bI ((p0_1 &&& (1 : Int32)) = (0 : Int32)))), .val (.int (p0_2 + (if (bI ((p0_1 &&& (1 : Int32)) = (0 : Int32))) = (0 : Int32) then (-1 : Int32) else (0 : Int32))))] [(.int (1 : Int32))])) _
      exact retN X94 hx (t := .boolean) Bd.returns (by simp) (hb hby at_54) hr
    · show Q0 Z p0_0 p0_1 p0_2 w0_NORTH w0_NORTH_EAST w0_SOUTH_EAST w0_SOUTH w0_SOUTH_WEST w0_NORTH_WEST h0 n0 _ T94.heap _
      rw [e94]
      exact ⟨rfl, N95⟩
set_option maxRecDepth 65536 in
set_option maxHeartbeats 40000000 in
theorem comes_1 {Post : Tables → Env → Array Value → State → Outcome → State → Prop} (hpost : ∀ tb e args s v u, (limb_1_1.after args s (.returned v) u = true ∧ limb_1_2.after args s (.returned v) u = true ∧ True) → FrameEnd s (.returned v) u (Jvm.fieldLocs frame_1_writes args s ++ Jvm.arrayLocs frame_1_arrays args s ++ Jvm.staticLocs frame_1_statics s) 0 0 → Post tb e args s (.returned v) u) :
    ArmFor flags0 classFile x code maxLocals ret World_1 tables_1 room_1 Calls_1 rest_1 Pre_1 Post := by
  intro l hfl _ _ p e ha hc hk s m args below hf hA hF happ hP
  obtain ⟨hcalls, hrest, hpre⟩ := hP
  obtain ⟨-, -, -, hnamed, -, -, -, hat⟩ := (Spec.applies_iff hf).mp happ
  obtain ⟨hg, hn⟩ := and_e (Cond.before_iff.mp (show (Jvm.Cond.and given_1 narrow_1).before args s = true from hpre))
  obtain ⟨g1, g2⟩ := and_e hg
  obtain ⟨g3, g4⟩ := and_e g2
  obtain ⟨g5, g6⟩ := and_e g4
  obtain ⟨w0, w1, w2, rfl⟩ : ∃ w0 w1 w2 : Value, args = #[w0, w1, w2] := by
    have hs : args.size = 3 := by simpa [Cond.value, given_1] using g1
    obtain ⟨L⟩ := args
    match L, hs with
    | [w0, w1, w2], _ => exact ⟨w0, w1, w2, rfl⟩
  have hw := fun d (hd : d ∈ tables_1) => atoms_spec (ws := Jvm.Cond.code x code maxLocals ret :: tables_1) hat d (List.mem_cons_of_mem _ hd)
  have hfit : Fit s := fun {y c} hc i hi => by
    obtain ⟨ha, rfl⟩ := Array.getElem?_eq_some_iff.mp hc
    have q := List.all_eq_true.mp ((Array.all_eq_true_iff_forall_mem.mp hF) _ (Array.getElem_mem ha)) i (List.mem_range.mpr hi)
    simpa [Array.getElem?_eq_getElem hi] using q
  obtain ⟨i0, ei0⟩ := is_v g3
  obtain rfl : w0 = (.int i0) := Option.some.inj ei0
  obtain ⟨i1, ei1⟩ := is_v g5
  obtain rfl : w1 = (.int i1) := Option.some.inj ei1
  obtain ⟨i2, ei2⟩ := is_v g6
  obtain rfl : w2 = (.int i2) := Option.some.inj ei2
  obtain ⟨y1, y2⟩ := and_e hn
  obtain ⟨y3, y4⟩ := and_e y2
  obtain ⟨y5, y6⟩ := and_e y4
  obtain ⟨y7, y8⟩ := and_e y6
  obtain ⟨y9, y10⟩ := and_e y8
  obtain ⟨y11, y12⟩ := and_e y10
  obtain ⟨y13, y14⟩ := and_e y12
  obtain ⟨y15, y16⟩ := and_e y14
  obtain ⟨y17, y18⟩ := and_e y16
  obtain ⟨y19, y20⟩ := and_e y18
  obtain ⟨y21, y22⟩ := and_e y20
  obtain ⟨y23, y24⟩ := and_e y22
  obtain ⟨y25, y26⟩ := and_e y24
  obtain ⟨y27, y28⟩ := and_e y26
  obtain ⟨y29, y30⟩ := and_e y28
  obtain ⟨y31, y32⟩ := and_e y30
  obtain ⟨y33, y34⟩ := and_e y32
  obtain ⟨sv_NORTH, ev_NORTH⟩ := exa_v y1
  have XE_NORTH := Exa.start ev_NORTH y1
  have XS_NORTH : Sta s s.heap "com/example/shieldwall/shieldwall/model/Direction" "NORTH" "Lcom/example/shieldwall/shieldwall/model/Direction;" (.ref sv_NORTH) := Sta.start ev_NORTH (Or.inr ⟨hw _ (List.mem_of_getElem? (i := 6) rfl), hw _ (List.mem_of_getElem? (i := 7) rfl)⟩)
  obtain ⟨sv_NORTH_EAST, ev_NORTH_EAST⟩ := exa_v y5
  have XE_NORTH_EAST := Exa.start ev_NORTH_EAST y5
  have XS_NORTH_EAST : Sta s s.heap "com/example/shieldwall/shieldwall/model/Direction" "NORTH_EAST" "Lcom/example/shieldwall/shieldwall/model/Direction;" (.ref sv_NORTH_EAST) := Sta.start ev_NORTH_EAST (Or.inr ⟨hw _ (List.mem_of_getElem? (i := 6) rfl), hw _ (List.mem_of_getElem? (i := 19) rfl)⟩)
  obtain ⟨sv_SOUTH_EAST, ev_SOUTH_EAST⟩ := exa_v y9
  have XE_SOUTH_EAST := Exa.start ev_SOUTH_EAST y9
  have XS_SOUTH_EAST : Sta s s.heap "com/example/shieldwall/shieldwall/model/Direction" "SOUTH_EAST" "Lcom/example/shieldwall/shieldwall/model/Direction;" (.ref sv_SOUTH_EAST) := Sta.start ev_SOUTH_EAST (Or.inr ⟨hw _ (List.mem_of_getElem? (i := 6) rfl), hw _ (List.mem_of_getElem? (i := 23) rfl)⟩)
  obtain ⟨sv_NORTH_WEST, ev_NORTH_WEST⟩ := exa_v y13
  have XE_NORTH_WEST := Exa.start ev_NORTH_WEST y13
  have XS_NORTH_WEST : Sta s s.heap "com/example/shieldwall/shieldwall/model/Direction" "NORTH_WEST" "Lcom/example/shieldwall/shieldwall/model/Direction;" (.ref sv_NORTH_WEST) := Sta.start ev_NORTH_WEST (Or.inr ⟨hw _ (List.mem_of_getElem? (i := 6) rfl), hw _ (List.mem_of_getElem? (i := 25) rfl)⟩)
  obtain ⟨sv_SOUTH, ev_SOUTH⟩ := exa_v y21
  have XE_SOUTH := Exa.start ev_SOUTH y21
  have XS_SOUTH : Sta s s.heap "com/example/shieldwall/shieldwall/model/Direction" "SOUTH" "Lcom/example/shieldwall/shieldwall/model/Direction;" (.ref sv_SOUTH) := Sta.start ev_SOUTH (Or.inr ⟨hw _ (List.mem_of_getElem? (i := 6) rfl), hw _ (List.mem_of_getElem? (i := 27) rfl)⟩)
  obtain ⟨sv_SOUTH_WEST, ev_SOUTH_WEST⟩ := exa_v y25
  have XE_SOUTH_WEST := Exa.start ev_SOUTH_WEST y25
  have XS_SOUTH_WEST : Sta s s.heap "com/example/shieldwall/shieldwall/model/Direction" "SOUTH_WEST" "Lcom/example/shieldwall/shieldwall/model/Direction;" (.ref sv_SOUTH_WEST) := Sta.start ev_SOUTH_WEST (Or.inr ⟨hw _ (List.mem_of_getElem? (i := 6) rfl), hw _ (List.mem_of_getElem? (i := 29) rfl)⟩)
  have XF_NORTH_rowStepFromOdd : Fld s s.heap sv_NORTH "com/example/shieldwall/shieldwall/model/Direction" "rowStepFromOdd" "I" (.int (-1 : Int32)) := Fld.start ((fld_at ev_NORTH).symm.trans (own_feq y3))
  have XF_NORTH_EAST_rowStepFromEven : Fld s s.heap sv_NORTH_EAST "com/example/shieldwall/shieldwall/model/Direction" "rowStepFromEven" "I" (.int (0 : Int32)) := Fld.start ((fld_at ev_NORTH_EAST).symm.trans (own_feq y7))
  have XF_SOUTH_EAST_rowStepFromEven : Fld s s.heap sv_SOUTH_EAST "com/example/shieldwall/shieldwall/model/Direction" "rowStepFromEven" "I" (.int (1 : Int32)) := Fld.start ((fld_at ev_SOUTH_EAST).symm.trans (own_feq y11))
  have XF_NORTH_WEST_rowStepFromEven : Fld s s.heap sv_NORTH_WEST "com/example/shieldwall/shieldwall/model/Direction" "rowStepFromEven" "I" (.int (0 : Int32)) := Fld.start ((fld_at ev_NORTH_WEST).symm.trans (own_feq y15))
  have XF_SOUTH_EAST_rowStepFromOdd : Fld s s.heap sv_SOUTH_EAST "com/example/shieldwall/shieldwall/model/Direction" "rowStepFromOdd" "I" (.int (0 : Int32)) := Fld.start ((fld_at ev_SOUTH_EAST).symm.trans (own_feq y17))
  have XF_NORTH_EAST_rowStepFromOdd : Fld s s.heap sv_NORTH_EAST "com/example/shieldwall/shieldwall/model/Direction" "rowStepFromOdd" "I" (.int (-1 : Int32)) := Fld.start ((fld_at ev_NORTH_EAST).symm.trans (own_feq y19))
  have XF_SOUTH_rowStepFromOdd : Fld s s.heap sv_SOUTH "com/example/shieldwall/shieldwall/model/Direction" "rowStepFromOdd" "I" (.int (1 : Int32)) := Fld.start ((fld_at ev_SOUTH).symm.trans (own_feq y23))
  have XF_SOUTH_WEST_rowStepFromEven : Fld s s.heap sv_SOUTH_WEST "com/example/shieldwall/shieldwall/model/Direction" "rowStepFromEven" "I" (.int (1 : Int32)) := Fld.start ((fld_at ev_SOUTH_WEST).symm.trans (own_feq y27))
  have XF_SOUTH_WEST_rowStepFromOdd : Fld s s.heap sv_SOUTH_WEST "com/example/shieldwall/shieldwall/model/Direction" "rowStepFromOdd" "I" (.int (0 : Int32)) := Fld.start ((fld_at ev_SOUTH_WEST).symm.trans (own_feq y29))
  have XF_SOUTH_rowStepFromEven : Fld s s.heap sv_SOUTH "com/example/shieldwall/shieldwall/model/Direction" "rowStepFromEven" "I" (.int (1 : Int32)) := Fld.start ((fld_at ev_SOUTH).symm.trans (own_feq y31))
  have XF_NORTH_rowStepFromEven : Fld s s.heap sv_NORTH "com/example/shieldwall/shieldwall/model/Direction" "rowStepFromEven" "I" (.int (-1 : Int32)) := Fld.start ((fld_at ev_NORTH).symm.trans (own_feq y33))
  have XF_NORTH_WEST_rowStepFromOdd : Fld s s.heap sv_NORTH_WEST "com/example/shieldwall/shieldwall/model/Direction" "rowStepFromOdd" "I" (.int (-1 : Int32)) := Fld.start ((fld_at ev_NORTH_WEST).symm.trans (own_feq y34))
  obtain ⟨n, o, h1, h2, h3, _, L, rfl, ⟨rfl, N⟩, hq⟩ := rm0 l s _ hw tables_1 i0 i1 i2 sv_NORTH sv_NORTH_EAST sv_SOUTH_EAST sv_SOUTH sv_SOUTH_WEST sv_NORTH_WEST s.heap s.heap.size (Nat.le_refl _) (Old.start s) XS_NORTH XS_NORTH_EAST XS_SOUTH_EAST XS_SOUTH XS_SOUTH_WEST XS_NORTH_WEST XF_NORTH_rowStepFromEven XF_NORTH_rowStepFromOdd XE_NORTH XF_NORTH_EAST_rowStepFromEven XF_NORTH_EAST_rowStepFromOdd XE_NORTH_EAST XF_SOUTH_EAST_rowStepFromEven XF_SOUTH_EAST_rowStepFromOdd XE_SOUTH_EAST XF_SOUTH_rowStepFromEven XF_SOUTH_rowStepFromOdd XE_SOUTH XF_SOUTH_WEST_rowStepFromEven XF_SOUTH_WEST_rowStepFromOdd XE_SOUTH_WEST XF_NORTH_WEST_rowStepFromEven XF_NORTH_WEST_rowStepFromOdd XE_NORTH_WEST p e ha hc hk s m _ below hf ((Spec.applies_iff_loose hf).mp happ).1 ⟨rfl, State.Warmed39.refl s, rfl⟩ trivial
  refine ⟨n, _, h1, h2, h3, hpost _ _ _ _ _ _ ⟨Cond.after_iff.mpr rfl, Cond.after_iff.mpr (eq_i res_at (Term.int_eval (1)) rfl), trivial⟩ ⟨hq.1, hq.2.1, (hq.2.2.sift fun y hy => Or.inr (N y hy)).mono (by decide) (by decide)⟩⟩
theorem main_1_1 : Claimed_1_1 := comes_1 fun _ _ _ _ _ _ h hF => ⟨h.1, hF⟩
theorem main_1_2 : Claimed_1_2 := comes_1 fun _ _ _ _ _ _ h hF => ⟨h.2.1, hF⟩
end Jvm.Pilot.@@N@@
namespace Jvm.Pilot.@@N@@
open Jvm Jvm.ClassFile Sem Op Lib Jvm.Free Jvm.Stand Jvm.Pilot.@@N@@.Jvm.D
/-! MADE BY PROGRAM (witnessworld.py) out of the Statement's table words and the real class files: 13 classes; the members and pool entries that the words name. The judged class is class 1, her method 3. -/
namespace start1
open Jvm.ClassFile
def u (s : String) : CpInfo := .utf8 (stringToUtf16 s)
/-- a pool by its gaps: so many unusable entries, then the entry; so many at the end -/
def gap : Nat → List CpInfo → List CpInfo
  | 0, r => r
  | n + 1, r => .unusable :: gap n r
def poolList (es : List (Nat × CpInfo)) (last : Nat) : List CpInfo := es.foldr (fun e r => gap e.1 (e.2 :: r)) (gap last [])
def pool (es : List (Nat × CpInfo)) (last : Nat) : Array CpInfo := ⟨poolList es last⟩
def fileOf (pool : Array CpInfo) (this : Nat) (attrs : Array Attribute := #[]) (ms : Array MethodInfo := #[]) (fl : Nat := 33) (sup : Nat := 0) (ifs : Array Nat := #[]) (fds : Array FieldInfo := #[]) : ClassFile where
  minorVersion := 0
  majorVersion := 65
  constantPool := pool
  accessFlags := fl
  thisClass := this
  superClass := sup
  interfaces := ifs
  fields := fds
  methods := ms
  attributes := attrs
def plain (name : String) (sup : Option ClassId) : Class where
  name := name
  kind := .ordinary
  loader := none
  accessFlags := 33
  super := sup
  interfaces := #[]
  cf := none
  fields := #[]
  methods := #[]
  instanceTypes := #[]
  staticTypes := #[]
  resolved := #[]
  callSites := []
  init := .initialized
  statics := none
  mirror := none

def pool0 : Array CpInfo := pool [(5, u "<init>"), (0, u "()V"), (1, .class_ 10), (1, u "java/lang/Object")] 113

def k0m0 : Method := { name := "<init>", desc := "()V", sig := { parameters := [], returnType := none }, accessFlags := 1, code := none }
/-- java/lang/Object -/
def k0 : Class := { plain "java/lang/Object" none with
  accessFlags := 33
  interfaces := #[]
  cf := some (fileOf pool0 8 #[] #[{ accessFlags := 1, nameIndex := 5, descriptorIndex := 6, attributes := #[] }] 33 0 #[] #[])
  fields := #[]
  methods := #[k0m0]
  instanceTypes := #[]
  staticTypes := #[]
  resolved := Array.replicate 124 none
  statics := none }

def pool1 : Array CpInfo := pool [(2, .class_ 4), (1, u "java/lang/Object"), (0, u "<init>"), (0, u "()V"), (0, .fieldref 8 9), (0, .class_ 10), (0, .nameAndType 11 12), (0, u "com/example/shieldwall/shieldwall/model/Direction"), (0, u "NORTH"), (0, u "Lcom/example/shieldwall/shieldwall/model/Direction;"), (0, .fieldref 8 14), (0, .nameAndType 15 12), (0, u "NORTH_EAST"), (0, .fieldref 8 17), (0, .nameAndType 18 12), (0, u "SOUTH_EAST"), (0, .fieldref 8 20), (0, .nameAndType 21 12), (0, u "SOUTH"), (0, .fieldref 8 23), (0, .nameAndType 24 12), (0, u "SOUTH_WEST"), (0, .fieldref 8 26), (0, .nameAndType 27 12), (0, u "NORTH_WEST"), (0, .integer 2147483647), (0, .methodref 30 31), (0, .class_ 32), (0, .nameAndType 33 34), (0, u "com/example/shieldwall/shieldwall/model/DirectionRowFromPinLaw"), (0, u "pick"), (0, u "(I)Lcom/example/shieldwall/shieldwall/model/Direction;"), (0, .methodref 30 36), (0, .nameAndType 37 38), (0, u "expectedStep"), (0, u "(IZ)I"), (0, .methodref 8 40), (0, .nameAndType 41 42), (0, u "rowFrom"), (0, u "(II)I"), (3, u "law"), (0, u "(III)Z")] 2

def k1m0 : Method := { name := "<init>", desc := "()V", sig := { parameters := [], returnType := none }, accessFlags := 1, code := none }
def k1c1 : Code := { maxStack := 2, maxLocals := 1, code := method_2_code, exceptionTable := #[], attributes := #[] }
def k1m1 : Method := { name := "pick", desc := "(I)Lcom/example/shieldwall/shieldwall/model/Direction;", sig := { parameters := [.int], returnType := some (.object "com/example/shieldwall/shieldwall/model/Direction") }, accessFlags := 10, code := some k1c1 }
def k1c2 : Code := { maxStack := 2, maxLocals := 2, code := method_3_code, exceptionTable := #[], attributes := #[] }
def k1m2 : Method := { name := "expectedStep", desc := "(IZ)I", sig := { parameters := [.int, .boolean], returnType := some .int }, accessFlags := 10, code := some k1c2 }
def k1c3 : Code := { maxStack := 3, maxLocals := 7, code := code, exceptionTable := #[], attributes := #[] }
def k1m3 : Method := { name := "law", desc := "(III)Z", sig := { parameters := [.int, .int, .int], returnType := some .boolean }, accessFlags := 9, code := some k1c3 }
/-- com/example/shieldwall/shieldwall/model/DirectionRowFromPinLaw -/
def k1 : Class := { plain "com/example/shieldwall/shieldwall/model/DirectionRowFromPinLaw" (some 0) with
  accessFlags := 49
  interfaces := #[]
  cf := some (fileOf pool1 30 #[] #[{ accessFlags := 1, nameIndex := 5, descriptorIndex := 6, attributes := #[] }, { accessFlags := 10, nameIndex := 33, descriptorIndex := 34, attributes := #[] }, { accessFlags := 10, nameIndex := 37, descriptorIndex := 38, attributes := #[] }, { accessFlags := 9, nameIndex := 46, descriptorIndex := 47, attributes := #[] }] 49 2 #[] #[])
  fields := #[]
  methods := #[k1m0, k1m1, k1m2, k1m3]
  instanceTypes := #[]
  staticTypes := #[]
  resolved := Array.replicate 50 none
  statics := none }

def pool2 : Array CpInfo := pool [(1, .class_ 2), (0, u "java/lang/constant/Constable"), (0, .class_ 4), (0, u "java/lang/Object")] 6

/-- java/lang/constant/Constable -/
def k2 : Class := { plain "java/lang/constant/Constable" (some 0) with
  accessFlags := 1537
  interfaces := #[]
  cf := some (fileOf pool2 1 #[] #[] 1537 3 #[] #[])
  fields := #[]
  methods := #[]
  instanceTypes := #[]
  staticTypes := #[]
  resolved := Array.replicate 11 none
  statics := none }

def pool3 : Array CpInfo := pool [(1, .class_ 2), (0, u "java/lang/Comparable"), (0, .class_ 4), (0, u "java/lang/Object")] 7

/-- java/lang/Comparable -/
def k3 : Class := { plain "java/lang/Comparable" (some 0) with
  accessFlags := 1537
  interfaces := #[]
  cf := some (fileOf pool3 1 #[] #[] 1537 3 #[] #[])
  fields := #[]
  methods := #[]
  instanceTypes := #[]
  staticTypes := #[]
  resolved := Array.replicate 12 none
  statics := none }

def pool4 : Array CpInfo := pool [(1, .class_ 2), (0, u "java/io/Serializable"), (0, .class_ 4), (0, u "java/lang/Object")] 2

/-- java/io/Serializable -/
def k4 : Class := { plain "java/io/Serializable" (some 0) with
  accessFlags := 1537
  interfaces := #[]
  cf := some (fileOf pool4 1 #[] #[] 1537 3 #[] #[])
  fields := #[]
  methods := #[]
  instanceTypes := #[]
  staticTypes := #[]
  resolved := Array.replicate 7 none
  statics := none }

def pool5 : Array CpInfo := pool [(2, .class_ 4), (1, u "java/lang/Enum"), (0, u "name"), (0, u "Ljava/lang/String;"), (2, u "ordinal"), (0, u "I"), (1, .class_ 14), (1, u "java/lang/Object"), (4, u "hash"), (86, .class_ 108), (1, u "java/lang/Enum$EnumDesc"), (2, .class_ 112), (0, u "java/lang/constant/Constable"), (0, .class_ 114), (0, u "java/lang/Comparable"), (0, .class_ 116), (0, u "java/io/Serializable")] 87

/-- java/lang/Enum -/
def k5 : Class := { plain "java/lang/Enum" (some 0) with
  accessFlags := 1057
  interfaces := #[2, 3, 4]
  cf := some (fileOf pool5 2 #[.nestMembers #[106]] #[] 1057 12 #[111, 113, 115] #[{ accessFlags := 18, nameIndex := 5, descriptorIndex := 6, attributes := #[] }, { accessFlags := 18, nameIndex := 9, descriptorIndex := 10, attributes := #[] }, { accessFlags := 2, nameIndex := 19, descriptorIndex := 10, attributes := #[] }])
  fields := #[{ name := "name", type := (.object "java/lang/String"), accessFlags := 18, slot := 0, constantValue := 0 }, { name := "ordinal", type := .int, accessFlags := 18, slot := 1, constantValue := 0 }, { name := "hash", type := .int, accessFlags := 2, slot := 2, constantValue := 0 }]
  methods := #[]
  instanceTypes := #[(.object "java/lang/String"), .int, .int]
  staticTypes := #[]
  resolved := Array.replicate 204 none
  statics := none }

def pool6 : Array CpInfo := pool [(52, .class_ 54), (1, u "com/example/shieldwall/shieldwall/model/Labelled"), (17, .class_ 73), (0, u "java/lang/Object")] 50

/-- com/example/shieldwall/shieldwall/model/Labelled -/
def k6 : Class := { plain "com/example/shieldwall/shieldwall/model/Labelled" (some 0) with
  accessFlags := 1537
  interfaces := #[]
  cf := some (fileOf pool6 52 #[] #[] 1537 72 #[] #[])
  fields := #[]
  methods := #[]
  instanceTypes := #[]
  staticTypes := #[]
  resolved := Array.replicate 124 none
  statics := none }

def pool7 : Array CpInfo := pool [(1, .class_ 2), (0, u "com/example/shieldwall/shieldwall/model/Direction"), (2, u "NORTH"), (0, u "Lcom/example/shieldwall/shieldwall/model/Direction;"), (2, u "NORTH_EAST"), (2, u "SOUTH_EAST"), (2, u "SOUTH"), (2, u "SOUTH_WEST"), (2, u "NORTH_WEST"), (2, u "$VALUES"), (0, u "[Lcom/example/shieldwall/shieldwall/model/Direction;"), (6, .class_ 34), (1, u "java/lang/Enum"), (8, u "columnStep"), (0, u "I"), (0, .fieldref 1 46), (0, .nameAndType 47 44), (0, u "rowStepFromOdd"), (0, .fieldref 1 49), (0, .nameAndType 50 44), (0, u "rowStepFromEven"), (26, .class_ 78), (0, u "com/example/shieldwall/shieldwall/model/Labelled"), (11, u "rowFrom"), (0, u "(II)I")] 6

def k7c0 : Code := { maxStack := 3, maxLocals := 3, code := prog_34_method_7_code, exceptionTable := #[], attributes := #[] }
def k7m0 : Method := { name := "rowFrom", desc := "(II)I", sig := { parameters := [.int, .int], returnType := some .int }, accessFlags := 0, code := some k7c0 }
/-- com/example/shieldwall/shieldwall/model/Direction -/
def k7 : Class := { plain "com/example/shieldwall/shieldwall/model/Direction" (some 5) with
  accessFlags := 16433
  interfaces := #[6]
  cf := some (fileOf pool7 1 #[] #[{ accessFlags := 0, nameIndex := 90, descriptorIndex := 91, attributes := #[] }] 16433 32 #[77] #[{ accessFlags := 16409, nameIndex := 5, descriptorIndex := 6, attributes := #[] }, { accessFlags := 16409, nameIndex := 9, descriptorIndex := 6, attributes := #[] }, { accessFlags := 16409, nameIndex := 12, descriptorIndex := 6, attributes := #[] }, { accessFlags := 16409, nameIndex := 15, descriptorIndex := 6, attributes := #[] }, { accessFlags := 16409, nameIndex := 18, descriptorIndex := 6, attributes := #[] }, { accessFlags := 16409, nameIndex := 21, descriptorIndex := 6, attributes := #[] }, { accessFlags := 18, nameIndex := 43, descriptorIndex := 44, attributes := #[] }, { accessFlags := 18, nameIndex := 47, descriptorIndex := 44, attributes := #[] }, { accessFlags := 18, nameIndex := 50, descriptorIndex := 44, attributes := #[] }, { accessFlags := 4122, nameIndex := 24, descriptorIndex := 25, attributes := #[] }])
  fields := #[{ name := "NORTH", type := (.object "com/example/shieldwall/shieldwall/model/Direction"), accessFlags := 16409, slot := 0, constantValue := 0 }, { name := "NORTH_EAST", type := (.object "com/example/shieldwall/shieldwall/model/Direction"), accessFlags := 16409, slot := 1, constantValue := 0 }, { name := "SOUTH_EAST", type := (.object "com/example/shieldwall/shieldwall/model/Direction"), accessFlags := 16409, slot := 2, constantValue := 0 }, { name := "SOUTH", type := (.object "com/example/shieldwall/shieldwall/model/Direction"), accessFlags := 16409, slot := 3, constantValue := 0 }, { name := "SOUTH_WEST", type := (.object "com/example/shieldwall/shieldwall/model/Direction"), accessFlags := 16409, slot := 4, constantValue := 0 }, { name := "NORTH_WEST", type := (.object "com/example/shieldwall/shieldwall/model/Direction"), accessFlags := 16409, slot := 5, constantValue := 0 }, { name := "columnStep", type := .int, accessFlags := 18, slot := 3, constantValue := 0 }, { name := "rowStepFromOdd", type := .int, accessFlags := 18, slot := 4, constantValue := 0 }, { name := "rowStepFromEven", type := .int, accessFlags := 18, slot := 5, constantValue := 0 }, { name := "$VALUES", type := (.array (.object "com/example/shieldwall/shieldwall/model/Direction")), accessFlags := 4122, slot := 6, constantValue := 0 }]
  methods := #[k7m0]
  instanceTypes := #[(.object "java/lang/String"), .int, .int, .int, .int, .int]
  staticTypes := #[(.object "com/example/shieldwall/shieldwall/model/Direction"), (.object "com/example/shieldwall/shieldwall/model/Direction"), (.object "com/example/shieldwall/shieldwall/model/Direction"), (.object "com/example/shieldwall/shieldwall/model/Direction"), (.object "com/example/shieldwall/shieldwall/model/Direction"), (.object "com/example/shieldwall/shieldwall/model/Direction"), (.array (.object "com/example/shieldwall/shieldwall/model/Direction"))]
  resolved := Array.replicate 98 none
  statics := some 0 }

def pool8 : Array CpInfo := pool [(1, u "java/lang/Cloneable"), (0, .class_ 1), (0, u "java/lang/Object"), (0, .class_ 3)] 3

/-- java/lang/Cloneable -/
def k8 : Class := { plain "java/lang/Cloneable" (some 0) with
  accessFlags := 1537
  interfaces := #[]
  cf := some (fileOf pool8 2 #[] #[] 1537 4 #[] #[])
  fields := #[]
  methods := #[]
  instanceTypes := #[]
  staticTypes := #[]
  resolved := Array.replicate 8 none
  statics := none }

/-- the primitive byte -/
def k9 : Class := { plain "byte" none with kind := .primitive 'B', accessFlags := 0x411 }
/-- [B -/
def k10 : Class := { plain "[B" (some 0) with kind := .array 9 .byte, interfaces := #[8, 4], accessFlags := 1041 }

/-- the primitive int -/
def k11 : Class := { plain "int" none with kind := .primitive 'I', accessFlags := 0x411 }
/-- [I -/
def k12 : Class := { plain "[I" (some 0) with kind := .array 11 .int, interfaces := #[8, 4], accessFlags := 1041 }

def heap : Heap := #[{ cls := 7, slots := #[.ref 1, .ref 2, .ref 3, .ref 4, .ref 5, .ref 6, .null], vm := .statics 7 },
  { cls := 7, slots := #[.null, .int 0, .int 0, .int 0, .int (-1), .int (-1)], vm := .none },
  { cls := 7, slots := #[.null, .int 1, .int 0, .int 0, .int (-1), .int 0], vm := .none },
  { cls := 7, slots := #[.null, .int 2, .int 0, .int 0, .int 0, .int 1], vm := .none },
  { cls := 7, slots := #[.null, .int 3, .int 0, .int 0, .int 1, .int 1], vm := .none },
  { cls := 7, slots := #[.null, .int 4, .int 0, .int 0, .int 0, .int 1], vm := .none },
  { cls := 7, slots := #[.null, .int 5, .int 0, .int 0, .int (-1), .int 0], vm := .none }]
def classes : Array Class := #[k0, k1, k2, k3, k4, k5, k6, k7, k8, k9, k10, k11, k12]
def interned : List (Array UInt16 × Addr) := []
def slotsUsed : Nat := 43
def theMethod : MethodId := ⟨1, 3⟩
def args0 : Array Value := #[.int 5, .int 3, .int 4]
def aboutOver (below : List Frame) : State where
  vm := { classes := classes, interned := interned.toArray }
  heap := heap
  slotsUsed := slotsUsed
  threads := #[{ frames := .invoking theMethod args0 :: below }]
def below0 : List Frame := [.native { method := ⟨0, 0⟩, args := #[] }]
def about1 : State := aboutOver below0
def p0 : Program := .bare "" "" ""
def e0 : Env := launch0.env 0 0 0
theorem w_frames : about1.frames = Frame.invoking theMethod args0 :: below0 := rfl
set_option maxRecDepth 65536 in
theorem w_args : argsFit about1.vm theMethod args0 = true := by decide +kernel
set_option maxRecDepth 65536 in
theorem w_heap : heapFits about1 = true := by decide +kernel
set_option maxRecDepth 65536 in
theorem w_runnable : about1.curStatus? = some .runnable := by decide +kernel
set_option maxRecDepth 65536 in
theorem w_alone : about1.alone = true := by decide +kernel
set_option maxRecDepth 65536 in
theorem w_named : about1.methodNamed? x = some theMethod := by decide +kernel
set_option maxRecDepth 65536 in
theorem w_hears : about1.hears theMethod below0 = true := by decide +kernel
set_option maxRecDepth 65536 in
theorem w_ripe : about1.ripe theMethod args0 below0 = true := by decide +kernel
theorem w_running : about1.status = .running := rfl
set_option maxRecDepth 65536 in
theorem w_room : about1.hasRoom e0.platform room_1 = true :=
  launch0.hasRoom_least _ room_1 (by decide +kernel) (by decide +kernel) (by decide +kernel) (by decide +kernel) (by decide +kernel) (by decide +kernel)
theorem allAtoms_all (ts : List Jvm.Cond) (a : Array Jvm.Value) (st : Jvm.State) : (allAtoms ts).before a st = ts.all (fun c => c.before a st) := by
  induction ts with
  | nil => rfl
  | cons c t ih =>
    show (Jvm.Cond.and c (allAtoms t)).before a st = _
    rw [Jvm.Cond.before_and, ih, List.all_cons]
def words1 : List Jvm.Cond := Jvm.Cond.code x code maxLocals ret :: tables_1
/-- a 'code' word, met by the world's own term for the bytes: nothing is compared byte by byte -/
theorem code_word {y : MethodName} {bytes : ByteArray} {mx : Nat} {rt : Option FieldType} {a : Array Value} {s : State} {m : MethodId} {meth : Method} {c : Code} (h1 : s.methodNamed? y = some m) (h2 : s.vm.method? m = some meth) (h3 : meth.code = some c) (h4 : c.code = bytes)
    (h5 : (c.maxLocals == mx && c.exceptionTable.isEmpty && decide (c.maxStack ≤ mostOperands) && decide (meth.sig.returnType = rt) && !meth.locks && decide (parseMethodDescriptor y.desc = some meth.sig)) = true) : (Jvm.Cond.code y bytes mx rt).before a s = true := by
  simp only [Bool.and_eq_true, beq_iff_eq, Bool.not_eq_true', decide_eq_true_eq] at h5
  obtain ⟨⟨⟨⟨⟨g1, g2⟩, g3⟩, g4⟩, g5⟩, g6⟩ := h5
  simp [Cond.before, Cond.holds, Cond.value, h1, h2, h3, h4, g1, g2, g3, g4, g5, g6]
def isCode : Jvm.Cond → Bool
  | .code _ _ _ _ => true
  | _ => false
theorem all_split {L : List Jvm.Cond} {P : Jvm.Cond → Bool} (h1 : L.all (fun c => isCode c || P c) = true) (h2 : ∀ c ∈ L.filter isCode, P c = true) : L.all P = true := by
  refine List.all_eq_true.mpr fun c hc => ?_
  have h := List.all_eq_true.mp h1 c hc
  rcases Bool.eq_false_or_eq_true (isCode c) with hi | hi
  · exact h2 c (List.mem_filter.mpr ⟨hc, hi⟩)
  · simpa [hi] using h
set_option maxRecDepth 65536 in
theorem w_c0 : (Jvm.Cond.code x code maxLocals ret).before args0 about1 = true := code_word (m := ⟨1, 3⟩) (meth := k1m3) (c := k1c3) (by decide +kernel) rfl rfl rfl (by decide +kernel)
set_option maxRecDepth 65536 in
theorem w_c1 : (Jvm.Cond.code ({ cls := "com/example/shieldwall/shieldwall/model/DirectionRowFromPinLaw", name := "pick", desc := "(I)Lcom/example/shieldwall/shieldwall/model/Direction;" } : Jvm.MethodName) method_2_code (1 : Nat) (Option.some (Jvm.ClassFile.FieldType.object "com/example/shieldwall/shieldwall/model/Direction"))).before args0 about1 = true := code_word (m := ⟨1, 1⟩) (meth := k1m1) (c := k1c1) (by decide +kernel) rfl rfl rfl (by decide +kernel)
set_option maxRecDepth 65536 in
theorem w_c2 : (Jvm.Cond.code ({ cls := "com/example/shieldwall/shieldwall/model/DirectionRowFromPinLaw", name := "expectedStep", desc := "(IZ)I" } : Jvm.MethodName) method_3_code (2 : Nat) (Option.some Jvm.ClassFile.FieldType.int)).before args0 about1 = true := code_word (m := ⟨1, 2⟩) (meth := k1m2) (c := k1c2) (by decide +kernel) rfl rfl rfl (by decide +kernel)
set_option maxRecDepth 65536 in
theorem w_c3 : (Jvm.Cond.code ({ cls := "com/example/shieldwall/shieldwall/model/Direction", name := "rowFrom", desc := "(II)I" } : Jvm.MethodName) prog_34_method_7_code (3 : Nat) (Option.some Jvm.ClassFile.FieldType.int)).before args0 about1 = true := code_word (m := ⟨7, 0⟩) (meth := k7m0) (c := k7c0) (by decide +kernel) rfl rfl rfl (by decide +kernel)
def codes1 : List Jvm.Cond := [Jvm.Cond.code x code maxLocals ret, Jvm.Cond.code ({ cls := "com/example/shieldwall/shieldwall/model/DirectionRowFromPinLaw", name := "pick", desc := "(I)Lcom/example/shieldwall/shieldwall/model/Direction;" } : Jvm.MethodName) method_2_code (1 : Nat) (Option.some (Jvm.ClassFile.FieldType.object "com/example/shieldwall/shieldwall/model/Direction")), Jvm.Cond.code ({ cls := "com/example/shieldwall/shieldwall/model/DirectionRowFromPinLaw", name := "expectedStep", desc := "(IZ)I" } : Jvm.MethodName) method_3_code (2 : Nat) (Option.some Jvm.ClassFile.FieldType.int), Jvm.Cond.code ({ cls := "com/example/shieldwall/shieldwall/model/Direction", name := "rowFrom", desc := "(II)I" } : Jvm.MethodName) prog_34_method_7_code (3 : Nat) (Option.some Jvm.ClassFile.FieldType.int)]
set_option maxRecDepth 65536 in
theorem codes_eq : words1.filter isCode = codes1 := rfl
theorem w_codes : ∀ c ∈ words1.filter isCode, c.before args0 about1 = true := by
  rw [codes_eq]
  intro c hc
  simp only [codes1, List.mem_cons, List.not_mem_nil, or_false] at hc
  rcases hc with rfl | rfl | rfl | rfl
  · exact w_c0
  · exact w_c1
  · exact w_c2
  · exact w_c3
set_option maxRecDepth 65536 in
theorem w_t1 : (words1.take 24).all (fun c => isCode c || c.before args0 about1) = true := by decide +kernel
set_option maxRecDepth 65536 in
theorem w_t2 : (words1.drop 24).all (fun c => isCode c || c.before args0 about1) = true := by decide +kernel
theorem w_tables : (allAtoms (Jvm.Cond.code x code maxLocals ret :: tables_1)).before args0 about1 = true := by
  rw [allAtoms_all]
  show words1.all (fun c => c.before args0 about1) = true
  refine all_split ?_ w_codes
  rw [← List.take_append_drop 24 words1, List.all_append, w_t1, w_t2]
  rfl
set_option maxRecDepth 65536 in
theorem w_case : (Jvm.Cond.and given_1 narrow_1).before args0 about1 = true := by decide +kernel
theorem w_applies : (headSpec (Jvm.Cond.code x code maxLocals ret :: tables_1) room_1).applies x e0.platform about1 = true :=
  (Spec.applies_iff w_frames).mpr ⟨w_running, w_runnable, w_alone, w_named, w_hears, w_ripe, w_room, w_tables⟩
theorem atStart : AtStart classFile x code maxLocals ret World_1 tables_1 room_1 Calls_1 rest_1 Pre_1 launch0 p0 e0 about1 theMethod args0 below0 :=
  ⟨lists_1, trivial, launch0.admits_env _ _ _, launch0.least_env, fairChoices_fair.cas, fairChoices_fair.clock, w_frames, w_args, w_heap, w_applies, trivial, trivial, w_case⟩
end start1
theorem witness_1 : WitnessClaimed_1 := ⟨start1.p0, start1.e0, start1.about1, start1.theMethod, start1.args0, start1.below0, start1.atStart⟩
end Jvm.Pilot.@@N@@
