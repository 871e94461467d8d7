import JvmDerived
import JvmDerived.Pilot.@@N@@Statement
import JvmDerived.Pilot.@@N@@Code
set_option linter.unusedVariables false
set_option linter.unusedSimpArgs false
namespace Jvm.RoadKit
open Sem ClassFile Op Lib Jvm.Stand Jvm.Free Jvm.LawKit
section New
variable {p : Program} {l : Launch} {e : Env} {R : Room} {s : State} {m : MethodId} {args : Array Value} {below : List Frame} {meth : Method} {c : Code} {T : State} {locs : List Loc} {cells slots : Nat}
theorem retI (X : Stand p l e R s m args below meth c T locs cells slots) (hx : p.tables.exec = Jvm.exec) {pc : Nat} {Ls : Array Slot} {z : Int32} {rest : List Value} (hret : meth.sig.returnType = some .int) (hd : decode c.code pc = .ok (.ireturn, 1)) {fs : List Frame}
    (hl : ∀ (f : JFrame) (acts : List Action), f.method = m → f.locked = none → f.entered = [] → (doReturn e (T.setTop f) acts (some (.int z))).1 = T.setFrames fs) : Steps p.tables e below (T.setTop (mkF m pc Ls (.int z :: rest))) (T.setFrames fs) := by
  have hm' : T.vm.method? m = some meth := X.method'
  have hn : narrow .int (.int z) = .int z := rfl
  show Steps p.tables e below (T.setTop { method := m, pc := pc, locals := Ls, stack := _ :: rest, locked := none }) _
  jvm_step X.here [X.here.top, hx, hd, hm', hret, hn]
  first | (intro acts; rw [hl _ acts rfl rfl rfl]) | rw [hl _ _ rfl rfl rfl]
  exact Steps.refl _
end New
end Jvm.RoadKit
namespace Jvm.Pilot.@@N@@
open Jvm Jvm.ClassFile Sem Op Lib Jvm.Free Jvm.Stand Jvm.LawKit Jvm.RoadKit Bundle Jvm.Pilot.@@N@@.Jvm.D
/-- a boolean of the law's, as the int that the machine holds -/
def bI (P : Prop) [Decidable P] : Int32 := if P then 1 else 0
theorem bI_t {P : Prop} [Decidable P] (h : P) : bI P = (1 : Int32) := if_pos h
theorem bI_f {P : Prop} [Decidable P] (h : ¬ P) : bI P = (0 : Int32) := if_neg h
theorem bI_n {P : Prop} [Decidable P] (h : P) : ¬ (bI P = (0 : Int32)) := by rw [bI_t h]; decide
theorem bI_iff {P Q : Prop} [Decidable P] [Decidable Q] (h : P ↔ Q) : bI P = bI Q := by
  by_cases p : P
  · rw [bI_t p, bI_t (h.mp p)]
  · rw [bI_f p, bI_f fun q => p (h.mpr q)]
theorem bI_nar {P : Prop} [Decidable P] : nar .boolean (bI P) = bI P := by
  by_cases p : P
  · rw [bI_t p]; rfl
  · rw [bI_f p]; rfl
theorem own_feq {a : Term} {k : Int32} {args : Array Value} {s : State} (h : (Jvm.Cond.eq a (.int k)).value args s none s [] = some true) : a.eval args s none [] s = some (.int k) := by
  obtain ⟨x, y, hx, hy, -, kin⟩ := cmp_v (Or.inl h)
  have e : y = .int k := (Option.some.inj (hy.symm.trans (Term.int_eval k)))
  subst e
  obtain ⟨z, rfl⟩ := kin
  have q : (Jvm.Cond.eq a (.int k)).value args s none s [] = some (decide (z = k)) := by simp [Cond.value, hx, hy]
  rw [q] at h
  have e : z = k := of_decide_eq_true (Option.some.inj h)
  rw [hx, e]
theorem own_neg (c : Int32) (h : c < (0 : Int32)) : ((if (-1 : Int32) < (if c < (1 : Int32) then c else (1 : Int32)) then (if c < (1 : Int32) then c else (1 : Int32)) else (-1 : Int32)) + (1 : Int32)) = (0 : Int32) := by
  have z0 : (0 : Int32).toInt = 0 := by decide
  have z1 : (1 : Int32).toInt = 1 := by decide
  have zm : (-1 : Int32).toInt = -1 := by decide
  rw [Int32.lt_iff_toInt_lt, z0] at h
  have a : c < (1 : Int32) := by rw [Int32.lt_iff_toInt_lt, z1]; omega
  rw [if_pos a]
  have b : ¬ (-1 : Int32) < c := by rw [Int32.lt_iff_toInt_lt, zm]; omega
  rw [if_neg b]
  rfl
theorem own_pos (c : Int32) (h : (0 : Int32) < c) : ((if (-1 : Int32) < (if c < (1 : Int32) then c else (1 : Int32)) then (if c < (1 : Int32) then c else (1 : Int32)) else (-1 : Int32)) + (1 : Int32)) = (2 : Int32) := by
  have z0 : (0 : Int32).toInt = 0 := by decide
  have z1 : (1 : Int32).toInt = 1 := by decide
  rw [Int32.lt_iff_toInt_lt, z0] at h
  have a : ¬ c < (1 : Int32) := by rw [Int32.lt_iff_toInt_lt, z1]; omega
  rw [if_neg a]
  rfl
theorem own_zer (c : Int32) (h : ¬ c < (0 : Int32)) (h' : ¬ (0 : Int32) < c) : ((if (-1 : Int32) < (if c < (1 : Int32) then c else (1 : Int32)) then (if c < (1 : Int32) then c else (1 : Int32)) else (-1 : Int32)) + (1 : Int32)) = (1 : Int32) := by
  have z0 : (0 : Int32).toInt = 0 := by decide
  rw [Int32.lt_iff_toInt_lt, z0] at h
  rw [Int32.lt_iff_toInt_lt, z0] at h'
  have e : c = 0 := Int32.toInt_inj.mp (by rw [z0]; omega)
  subst e
  rfl
theorem d1_0 : decode jdk_29_method_69_code 0 = .ok (.iload_n 0, 1) := by decide +kernel
theorem d1_1 : decode jdk_29_method_69_code 1 = .ok (.iload_n 1, 1) := by decide +kernel
theorem d1_2 : decode jdk_29_method_69_code 2 = .ok (.if_icmp .gt 7, 3) := by decide +kernel
theorem d1_5 : decode jdk_29_method_69_code 5 = .ok (.iload_n 0, 1) := by decide +kernel
theorem d1_6 : decode jdk_29_method_69_code 6 = .ok (.goto 4, 3) := by decide +kernel
theorem d1_9 : decode jdk_29_method_69_code 9 = .ok (.iload_n 1, 1) := by decide +kernel
theorem d1_10 : decode jdk_29_method_69_code 10 = .ok (.ireturn, 1) := by decide +kernel
theorem ef_1 (m : MethodId) (x0 : Int32) (x1 : Int32) : entryFrame m #[(.int x0), (.int x1)] 2 = mkF m 0 #[.val (.int x0), .val (.int x1)] [] := by first | (simp [entryFrame, mkF, argsToLocals, Value.category]; done) | rfl
def Q1 (Z : State) (p1_0 : Int32) (p1_1 : Int32) (h0 : Heap) (n0 : Nat) (v : Option Value) (h : Heap) (L : List Loc) : Prop := v = some (.int (if p1_1 < p1_0 then p1_1 else p1_0)) ∧ Fr n0 L ∧ h = h0
set_option maxRecDepth 65536 in
set_option maxHeartbeats 40000000 in
theorem rm1 (l : Launch) (Z : State) (a0 : Array Value) (hw : ∀ d ∈ tables_1, d.before a0 Z = true) (ws : List Jvm.Cond) (p1_0 : Int32) (p1_1 : Int32) (h0 : Heap) (n0 : Nat) (Z0 : n0 ≤ h0.size) :
    MetFree l (⟨"java/lang/Math", "min", "(II)I"⟩ : MethodName) (head1 (Jvm.Cond.code (⟨"java/lang/Math", "min", "(II)I"⟩ : MethodName) jdk_29_method_69_code 2 (some .int) :: ws) ({ frames := 0, cells := 0, slots := 0, locals := 0 } : Room)) (fun a U => a = #[(.int p1_0), (.int p1_1)] ∧ Z.Warmed39 U.vm ∧ U.heap = h0) (fun _ _ _ _ _ => True) (fun _ U o U' => ∃ v L, o = .returned v ∧ Q1 Z p1_0 p1_1 h0 n0 v U'.heap L ∧ FrameEnd U o U' L ({ frames := 0, cells := 0, slots := 0, locals := 0 } : Room).cells ({ frames := 0, cells := 0, slots := 0, locals := 0 } : Room).slots) := by
  refine MetFree.of_bodySF (Jvm.Free.JP.mathPlain rfl (by decide +kernel)) hisR ?_
  intro p e s m args below meth c s₁ Bd hml0 hP hK
  obtain ⟨rfl, hZ, hh⟩ := hP
  have hVV : ∀ (i : Nat) (d : Jvm.Cond), tables_1[i]? = some d → d.before a0 Z = true := fun i d h => hw d (List.mem_of_getElem? h)
  have hx := Bd.exec
  have hby := Bd.bytes
  have hml : c.maxLocals = 2 := hml0
  have hown : s.vm.findClass "java/lang/Math" = some m.cls := findClass_of_methodNamed Bd.named
  have hnm := (name_of_methodNamed Bd.named Bd.method).1
  have X0 : Stand p l e ({ frames := 0, cells := 0, slots := 0, locals := 0 } : Room) s m #[(.int p1_0), (.int p1_1)] below meth c s₁ [] 0 0 := Stand.of_body Bd
  have e0 : s₁.heap = h0 := by rw [← hh, Bd.state]; rfl
  have N0 := Fr.nil n0
  have pre0 : ∀ t, Steps p.tables e below (s₁.setTop (mkF m 0 #[.val (.int p1_0), .val (.int p1_1)] [])) t → Steps p.tables e below (s₁.setTop (entryFrame m #[(.int p1_0), (.int p1_1)] 2)) t := fun t k => castTop (ef_1 m p1_0 p1_1) k
  have pre2 : ∀ t, Steps p.tables e below (s₁.setTop (mkF m 2 #[.val (.int p1_0), .val (.int p1_1)] [(.int p1_1), (.int p1_0)])) t → Steps p.tables e below (s₁.setTop (entryFrame m #[(.int p1_0), (.int p1_1)] 2)) t := fun t k => pre0 t (by
    show Steps p.tables e below (s₁.setTop (mkF m 0 #[.val (.int p1_0), .val (.int p1_1)] [])) _
    refine XS.iloadN X0.here hx rfl (hb hby d1_0) rfl ?_
    show Steps p.tables e below (s₁.setTop (mkF m 1 #[.val (.int p1_0), .val (.int p1_1)] [(.int p1_0)])) _
    refine XS.iloadN X0.here hx rfl (hb hby d1_1) rfl ?_
    exact k)
  have pre3 : ∀ t, Steps p.tables e below (s₁.setTop (mkF m 10 #[.val (.int p1_0), .val (.int p1_1)] [(.int (if p1_1 < p1_0 then p1_1 else p1_0))])) t → Steps p.tables e below (s₁.setTop (entryFrame m #[(.int p1_0), (.int p1_1)] 2)) t := fun t k => pre2 t (by
    by_cases hc1 : p1_1 < p1_0
    · show Steps p.tables e below (s₁.setTop (mkF m 2 #[.val (.int p1_0), .val (.int p1_1)] [(.int p1_1), (.int p1_0)])) _
      refine XS.icmpYes X0.here hx rfl (pc0 := 2) (pc' := 9) rfl (hb hby d1_2) rfl (tlt hc1).2.2.1 (by decide) (by decide) ?_
      show Steps p.tables e below (s₁.setTop (mkF m 9 #[.val (.int p1_0), .val (.int p1_1)] [])) _
      refine XS.iloadN X0.here hx rfl (hb hby d1_9) rfl ?_
      have q4 : (if p1_1 < p1_0 then p1_1 else p1_0) = p1_1 := (if_pos hc1)
      exact castTop (g := (mkF m 10 #[.val (.int p1_0), .val (.int p1_1)] [(.int p1_1)])) (g' := (mkF m 10 #[.val (.int p1_0), .val (.int p1_1)] [(.int (if p1_1 < p1_0 then p1_1 else p1_0))])) (by simp only [q4]) k
    · show Steps p.tables e below (s₁.setTop (mkF m 2 #[.val (.int p1_0), .val (.int p1_1)] [(.int p1_1), (.int p1_0)])) _
      refine XS.icmpNo X0.here hx rfl (hb hby d1_2) rfl (flt hc1).2.2.1 ?_
      show Steps p.tables e below (s₁.setTop (mkF m 5 #[.val (.int p1_0), .val (.int p1_1)] [])) _
      refine XS.iloadN X0.here hx rfl (hb hby d1_5) rfl ?_
      show Steps p.tables e below (s₁.setTop (mkF m 6 #[.val (.int p1_0), .val (.int p1_1)] [(.int p1_0)])) _
      refine XS.goto X0.here hx rfl (pc0 := 6) (pc' := 10) rfl (hb hby d1_6) (by decide) (by decide) ?_
      have q5 : (if p1_1 < p1_0 then p1_1 else p1_0) = p1_0 := (if_neg hc1)
      exact castTop (g := (mkF m 10 #[.val (.int p1_0), .val (.int p1_1)] [(.int p1_0)])) (g' := (mkF m 10 #[.val (.int p1_0), .val (.int p1_1)] [(.int (if p1_1 < p1_0 then p1_1 else p1_0))])) (by simp only [q5]) k)
  obtain ⟨fs, hr, hrun, hended, hW, hsame⟩ := X0.leave (v := some (.int (if p1_1 < p1_0 then p1_1 else p1_0))) (fun h => by rw [Bd.returns] at h; cases h)
  refine ⟨_, _, pre3 _ ?_, hrun, hended, _, _, rfl, ?_, ⟨_, rfl⟩, hW, hsame.mono (by decide) (by decide)⟩
  · show Steps p.tables e below (s₁.setTop (mkF m 10 #[.val (.int p1_0), .val (.int p1_1)] [(.int (if p1_1 < p1_0 then p1_1 else p1_0))])) _
    exact retI X0 hx Bd.returns (hb hby d1_10) hr
  · show Q1 Z p1_0 p1_1 h0 n0 _ s₁.heap _
    rw [e0]
    exact ⟨rfl, N0, rfl⟩
theorem d2_0 : decode jdk_29_method_65_code 0 = .ok (.iload_n 0, 1) := by decide +kernel
theorem d2_1 : decode jdk_29_method_65_code 1 = .ok (.iload_n 1, 1) := by decide +kernel
theorem d2_2 : decode jdk_29_method_65_code 2 = .ok (.if_icmp .lt 7, 3) := by decide +kernel
theorem d2_5 : decode jdk_29_method_65_code 5 = .ok (.iload_n 0, 1) := by decide +kernel
theorem d2_6 : decode jdk_29_method_65_code 6 = .ok (.goto 4, 3) := by decide +kernel
theorem d2_9 : decode jdk_29_method_65_code 9 = .ok (.iload_n 1, 1) := by decide +kernel
theorem d2_10 : decode jdk_29_method_65_code 10 = .ok (.ireturn, 1) := by decide +kernel
theorem ef_2 (m : MethodId) (x0 : Int32) (x1 : Int32) : entryFrame m #[(.int x0), (.int x1)] 2 = mkF m 0 #[.val (.int x0), .val (.int x1)] [] := by first | (simp [entryFrame, mkF, argsToLocals, Value.category]; done) | rfl
def Q2 (Z : State) (p2_0 : Int32) (p2_1 : Int32) (h0 : Heap) (n0 : Nat) (v : Option Value) (h : Heap) (L : List Loc) : Prop := v = some (.int (if p2_0 < p2_1 then p2_1 else p2_0)) ∧ Fr n0 L ∧ h = h0
set_option maxRecDepth 65536 in
set_option maxHeartbeats 40000000 in
theorem rm2 (l : Launch) (Z : State) (a0 : Array Value) (hw : ∀ d ∈ tables_1, d.before a0 Z = true) (ws : List Jvm.Cond) (p2_0 : Int32) (p2_1 : Int32) (h0 : Heap) (n0 : Nat) (Z0 : n0 ≤ h0.size) :
    MetFree l (⟨"java/lang/Math", "max", "(II)I"⟩ : MethodName) (head1 (Jvm.Cond.code (⟨"java/lang/Math", "max", "(II)I"⟩ : MethodName) jdk_29_method_65_code 2 (some .int) :: ws) ({ frames := 0, cells := 0, slots := 0, locals := 0 } : Room)) (fun a U => a = #[(.int p2_0), (.int p2_1)] ∧ Z.Warmed39 U.vm ∧ U.heap = h0) (fun _ _ _ _ _ => True) (fun _ U o U' => ∃ v L, o = .returned v ∧ Q2 Z p2_0 p2_1 h0 n0 v U'.heap L ∧ FrameEnd U o U' L ({ frames := 0, cells := 0, slots := 0, locals := 0 } : Room).cells ({ frames := 0, cells := 0, slots := 0, locals := 0 } : Room).slots) := by
  refine MetFree.of_bodySF (Jvm.Free.JP.mathPlain rfl (by decide +kernel)) hisR ?_
  intro p e s m args below meth c s₁ Bd hml0 hP hK
  obtain ⟨rfl, hZ, hh⟩ := hP
  have hVV : ∀ (i : Nat) (d : Jvm.Cond), tables_1[i]? = some d → d.before a0 Z = true := fun i d h => hw d (List.mem_of_getElem? h)
  have hx := Bd.exec
  have hby := Bd.bytes
  have hml : c.maxLocals = 2 := hml0
  have hown : s.vm.findClass "java/lang/Math" = some m.cls := findClass_of_methodNamed Bd.named
  have hnm := (name_of_methodNamed Bd.named Bd.method).1
  have X0 : Stand p l e ({ frames := 0, cells := 0, slots := 0, locals := 0 } : Room) s m #[(.int p2_0), (.int p2_1)] below meth c s₁ [] 0 0 := Stand.of_body Bd
  have e0 : s₁.heap = h0 := by rw [← hh, Bd.state]; rfl
  have N0 := Fr.nil n0
  have pre0 : ∀ t, Steps p.tables e below (s₁.setTop (mkF m 0 #[.val (.int p2_0), .val (.int p2_1)] [])) t → Steps p.tables e below (s₁.setTop (entryFrame m #[(.int p2_0), (.int p2_1)] 2)) t := fun t k => castTop (ef_2 m p2_0 p2_1) k
  have pre2 : ∀ t, Steps p.tables e below (s₁.setTop (mkF m 2 #[.val (.int p2_0), .val (.int p2_1)] [(.int p2_1), (.int p2_0)])) t → Steps p.tables e below (s₁.setTop (entryFrame m #[(.int p2_0), (.int p2_1)] 2)) t := fun t k => pre0 t (by
    show Steps p.tables e below (s₁.setTop (mkF m 0 #[.val (.int p2_0), .val (.int p2_1)] [])) _
    refine XS.iloadN X0.here hx rfl (hb hby d2_0) rfl ?_
    show Steps p.tables e below (s₁.setTop (mkF m 1 #[.val (.int p2_0), .val (.int p2_1)] [(.int p2_0)])) _
    refine XS.iloadN X0.here hx rfl (hb hby d2_1) rfl ?_
    exact k)
  have pre3 : ∀ t, Steps p.tables e below (s₁.setTop (mkF m 10 #[.val (.int p2_0), .val (.int p2_1)] [(.int (if p2_0 < p2_1 then p2_1 else p2_0))])) t → Steps p.tables e below (s₁.setTop (entryFrame m #[(.int p2_0), (.int p2_1)] 2)) t := fun t k => pre2 t (by
    by_cases hc1 : p2_0 < p2_1
    · show Steps p.tables e below (s₁.setTop (mkF m 2 #[.val (.int p2_0), .val (.int p2_1)] [(.int p2_1), (.int p2_0)])) _
      refine XS.icmpYes X0.here hx rfl (pc0 := 2) (pc' := 9) rfl (hb hby d2_2) rfl (tlt hc1).1 (by decide) (by decide) ?_
      show Steps p.tables e below (s₁.setTop (mkF m 9 #[.val (.int p2_0), .val (.int p2_1)] [])) _
      refine XS.iloadN X0.here hx rfl (hb hby d2_9) rfl ?_
      have q4 : (if p2_0 < p2_1 then p2_1 else p2_0) = p2_1 := (if_pos hc1)
      exact castTop (g := (mkF m 10 #[.val (.int p2_0), .val (.int p2_1)] [(.int p2_1)])) (g' := (mkF m 10 #[.val (.int p2_0), .val (.int p2_1)] [(.int (if p2_0 < p2_1 then p2_1 else p2_0))])) (by simp only [q4]) k
    · show Steps p.tables e below (s₁.setTop (mkF m 2 #[.val (.int p2_0), .val (.int p2_1)] [(.int p2_1), (.int p2_0)])) _
      refine XS.icmpNo X0.here hx rfl (hb hby d2_2) rfl (flt hc1).1 ?_
      show Steps p.tables e below (s₁.setTop (mkF m 5 #[.val (.int p2_0), .val (.int p2_1)] [])) _
      refine XS.iloadN X0.here hx rfl (hb hby d2_5) rfl ?_
      show Steps p.tables e below (s₁.setTop (mkF m 6 #[.val (.int p2_0), .val (.int p2_1)] [(.int p2_0)])) _
      refine XS.goto X0.here hx rfl (pc0 := 6) (pc' := 10) rfl (hb hby d2_6) (by decide) (by decide) ?_
      have q5 : (if p2_0 < p2_1 then p2_1 else p2_0) = p2_0 := (if_neg hc1)
      exact castTop (g := (mkF m 10 #[.val (.int p2_0), .val (.int p2_1)] [(.int p2_0)])) (g' := (mkF m 10 #[.val (.int p2_0), .val (.int p2_1)] [(.int (if p2_0 < p2_1 then p2_1 else p2_0))])) (by simp only [q5]) k)
  obtain ⟨fs, hr, hrun, hended, hW, hsame⟩ := X0.leave (v := some (.int (if p2_0 < p2_1 then p2_1 else p2_0))) (fun h => by rw [Bd.returns] at h; cases h)
  refine ⟨_, _, pre3 _ ?_, hrun, hended, _, _, rfl, ?_, ⟨_, rfl⟩, hW, hsame.mono (by decide) (by decide)⟩
  · show Steps p.tables e below (s₁.setTop (mkF m 10 #[.val (.int p2_0), .val (.int p2_1)] [(.int (if p2_0 < p2_1 then p2_1 else p2_0))])) _
    exact retI X0 hx Bd.returns (hb hby d2_10) hr
  · show Q2 Z p2_0 p2_1 h0 n0 _ s₁.heap _
    rw [e0]
    exact ⟨rfl, N0, rfl⟩
theorem d3_0 : decode prog_75_method_4_code 0 = .ok (.iload_n 0, 1) := by decide +kernel
theorem d3_1 : decode prog_75_method_4_code 1 = .ok (.ifCond .ge 10, 3) := by decide +kernel
theorem d3_4 : decode prog_75_method_4_code 4 = .ok (.getstatic 3, 3) := by decide +kernel
theorem d3_7 : decode prog_75_method_4_code 7 = .ok (.astore_n 1, 1) := by decide +kernel
theorem d3_8 : decode prog_75_method_4_code 8 = .ok (.goto 18, 3) := by decide +kernel
theorem d3_26 : decode prog_75_method_4_code 26 = .ok (.aload_n 1, 1) := by decide +kernel
theorem d3_27 : decode prog_75_method_4_code 27 = .ok (.areturn, 1) := by decide +kernel
theorem pn_3 : plainName "com/example/tripleshard/tripleshard/sparql/Order" = true := by first | (simp [plainName, overriddenIn]; done) | decide +kernel
theorem ef_3 (m : MethodId) (x0 : Int32) : entryFrame m #[(.int x0)] 2 = mkF m 0 #[.val (.int x0), .unset] [] := by first | (simp [entryFrame, mkF, argsToLocals, Value.category]; done) | rfl
def Q3_n (Z : State) (p3_0 : Int32) (w3_LESS : Addr) (h0 : Heap) (n0 : Nat) (v : Option Value) (h : Heap) (L : List Loc) : Prop := v = some (.ref w3_LESS) ∧ Fr n0 L ∧ h = h0
set_option maxRecDepth 65536 in
set_option maxHeartbeats 40000000 in
theorem rm3_n (l : Launch) (Z : State) (a0 : Array Value) (hw : ∀ d ∈ tables_1, d.before a0 Z = true) (ws : List Jvm.Cond) (p3_0 : Int32) (w3_LESS : Addr) (h0 : Heap) (n0 : Nat) (Z0 : n0 ≤ h0.size) (O0 : Old Z n0 h0) (hp3_1 : p3_0 < (0 : Int32)) (S_LESS : Sta Z Z.heap "com/example/tripleshard/tripleshard/sparql/Order" "LESS" "Lcom/example/tripleshard/tripleshard/sparql/Order;" (.ref w3_LESS)) :
    MetFree l (⟨"com/example/tripleshard/tripleshard/sparql/Order", "of", "(I)Lcom/example/tripleshard/tripleshard/sparql/Order;"⟩ : MethodName) (head1 (Jvm.Cond.code (⟨"com/example/tripleshard/tripleshard/sparql/Order", "of", "(I)Lcom/example/tripleshard/tripleshard/sparql/Order;"⟩ : MethodName) prog_75_method_4_code 2 (some (.object "com/example/tripleshard/tripleshard/sparql/Order")) :: ws) ({ frames := 0, cells := 0, slots := 0, locals := 0 } : Room)) (fun a U => a = #[(.int p3_0)] ∧ Z.Warmed39 U.vm ∧ U.heap = h0) (fun _ _ _ _ _ => True) (fun _ U o U' => ∃ v L, o = .returned v ∧ Q3_n Z p3_0 w3_LESS h0 n0 v U'.heap L ∧ FrameEnd U o U' L ({ frames := 0, cells := 0, slots := 0, locals := 0 } : Room).cells ({ frames := 0, cells := 0, slots := 0, locals := 0 } : Room).slots) := by
  refine MetFree.of_bodySF (plainFor_of_name pn_3) hisR ?_
  intro p e s m args below meth c s₁ Bd hml0 hP hK
  obtain ⟨rfl, hZ, hh⟩ := hP
  have hVV : ∀ (i : Nat) (d : Jvm.Cond), tables_1[i]? = some d → d.before a0 Z = true := fun i d h => hw d (List.mem_of_getElem? h)
  have hx := Bd.exec
  have hby := Bd.bytes
  have hml : c.maxLocals = 2 := hml0
  have hown : s.vm.findClass "com/example/tripleshard/tripleshard/sparql/Order" = some m.cls := findClass_of_methodNamed Bd.named
  have hnm := (name_of_methodNamed Bd.named Bd.method).1
  have X0 : Stand p l e ({ frames := 0, cells := 0, slots := 0, locals := 0 } : Room) s m #[(.int p3_0)] below meth c s₁ [] 0 0 := Stand.of_body Bd
  have e0 : s₁.heap = h0 := by rw [← hh, Bd.state]; rfl
  have N0 := Fr.nil n0
  have pre0 : ∀ t, Steps p.tables e below (s₁.setTop (mkF m 0 #[.val (.int p3_0), .unset] [])) t → Steps p.tables e below (s₁.setTop (entryFrame m #[(.int p3_0)] 2)) t := fun t k => castTop (ef_3 m p3_0) k
  obtain ⟨T1, X1, e1, st1⟩ := getS2 X0 hx hZ hown (host := "") (Or.inl (hVV 22 _ rfl)) Via.refl e0 (S_LESS.ext O0.2) (g := (mkF m 4 #[.val (.int p3_0), .unset] [])) rfl (hb hby d3_4)
  have pre2 : ∀ t, Steps p.tables e below (T1.setTop (mkF m 7 #[.val (.int p3_0), .unset] [(.ref w3_LESS)])) t → Steps p.tables e below (s₁.setTop (entryFrame m #[(.int p3_0)] 2)) t := fun t k => pre0 t (by
    show Steps p.tables e below (s₁.setTop (mkF m 0 #[.val (.int p3_0), .unset] [])) _
    refine XS.iloadN X0.here hx rfl (hb hby d3_0) rfl ?_
    show Steps p.tables e below (s₁.setTop (mkF m 1 #[.val (.int p3_0), .unset] [(.int p3_0)])) _
    refine XS.ifNo X0.here hx rfl (hb hby d3_1) rfl ((if0 _ _).trans (tlt hp3_1).2.1) ?_
    show Steps p.tables e below (s₁.setTop (mkF m 4 #[.val (.int p3_0), .unset] [])) _
    refine st1 _ ?_
    exact k)
  obtain ⟨fs, hr, hrun, hended, hW, hsame⟩ := X1.leave (v := some (.ref w3_LESS)) (fun h => by rw [Bd.returns] at h; cases h)
  refine ⟨_, _, pre2 _ ?_, hrun, hended, _, _, rfl, ?_, ⟨_, rfl⟩, hW, hsame.mono (by decide) (by decide)⟩
  · show Steps p.tables e below (T1.setTop (mkF m 7 #[.val (.int p3_0), .unset] [(.ref w3_LESS)])) _
    refine XS.astoreN X1.here hx rfl (hb hby d3_7) rfl rfl (l' := #[.val (.int p3_0), .val (.ref w3_LESS)]) rfl ?_
    show Steps p.tables e below (T1.setTop (mkF m 8 #[.val (.int p3_0), .val (.ref w3_LESS)] [])) _
    refine XS.goto X1.here hx rfl (pc0 := 8) (pc' := 26) rfl (hb hby d3_8) (by decide) (by decide) ?_
    show Steps p.tables e below (T1.setTop (mkF m 26 #[.val (.int p3_0), .val (.ref w3_LESS)] [])) _
    refine XS.aloadN X1.here hx rfl (hb hby d3_26) rfl rfl ?_
    show Steps p.tables e below (T1.setTop (mkF m 27 #[.val (.int p3_0), .val (.ref w3_LESS)] [(.ref w3_LESS)])) _
    jvm_step X1.here [X1.here.top, hx, (hb hby d3_27), X1.method', Bd.returns, Value.isRef, FieldType.isReference]
    first | (intro acts; rw [hr _ acts rfl rfl rfl]) | rw [hr _ _ rfl rfl rfl]
    exact Steps.refl _
  · show Q3_n Z p3_0 w3_LESS h0 n0 _ T1.heap _
    rw [e1]
    exact ⟨rfl, N0, rfl⟩
theorem d3_11 : decode prog_75_method_4_code 11 = .ok (.iload_n 0, 1) := by decide +kernel
theorem d3_12 : decode prog_75_method_4_code 12 = .ok (.ifCond .le 10, 3) := by decide +kernel
theorem d3_15 : decode prog_75_method_4_code 15 = .ok (.getstatic 10, 3) := by decide +kernel
theorem d3_18 : decode prog_75_method_4_code 18 = .ok (.astore_n 1, 1) := by decide +kernel
theorem d3_19 : decode prog_75_method_4_code 19 = .ok (.goto 7, 3) := by decide +kernel
def Q3_p (Z : State) (p3_0 : Int32) (w3_GREATER : Addr) (h0 : Heap) (n0 : Nat) (v : Option Value) (h : Heap) (L : List Loc) : Prop := v = some (.ref w3_GREATER) ∧ Fr n0 L ∧ h = h0
set_option maxRecDepth 65536 in
set_option maxHeartbeats 40000000 in
theorem rm3_p (l : Launch) (Z : State) (a0 : Array Value) (hw : ∀ d ∈ tables_1, d.before a0 Z = true) (ws : List Jvm.Cond) (p3_0 : Int32) (w3_GREATER : Addr) (h0 : Heap) (n0 : Nat) (Z0 : n0 ≤ h0.size) (O0 : Old Z n0 h0) (hp3_1 : ¬ (p3_0 < (0 : Int32))) (hp3_12 : (0 : Int32) < p3_0) (S_GREATER : Sta Z Z.heap "com/example/tripleshard/tripleshard/sparql/Order" "GREATER" "Lcom/example/tripleshard/tripleshard/sparql/Order;" (.ref w3_GREATER)) :
    MetFree l (⟨"com/example/tripleshard/tripleshard/sparql/Order", "of", "(I)Lcom/example/tripleshard/tripleshard/sparql/Order;"⟩ : MethodName) (head1 (Jvm.Cond.code (⟨"com/example/tripleshard/tripleshard/sparql/Order", "of", "(I)Lcom/example/tripleshard/tripleshard/sparql/Order;"⟩ : MethodName) prog_75_method_4_code 2 (some (.object "com/example/tripleshard/tripleshard/sparql/Order")) :: ws) ({ frames := 0, cells := 0, slots := 0, locals := 0 } : Room)) (fun a U => a = #[(.int p3_0)] ∧ Z.Warmed39 U.vm ∧ U.heap = h0) (fun _ _ _ _ _ => True) (fun _ U o U' => ∃ v L, o = .returned v ∧ Q3_p Z p3_0 w3_GREATER h0 n0 v U'.heap L ∧ FrameEnd U o U' L ({ frames := 0, cells := 0, slots := 0, locals := 0 } : Room).cells ({ frames := 0, cells := 0, slots := 0, locals := 0 } : Room).slots) := by
  refine MetFree.of_bodySF (plainFor_of_name pn_3) hisR ?_
  intro p e s m args below meth c s₁ Bd hml0 hP hK
  obtain ⟨rfl, hZ, hh⟩ := hP
  have hVV : ∀ (i : Nat) (d : Jvm.Cond), tables_1[i]? = some d → d.before a0 Z = true := fun i d h => hw d (List.mem_of_getElem? h)
  have hx := Bd.exec
  have hby := Bd.bytes
  have hml : c.maxLocals = 2 := hml0
  have hown : s.vm.findClass "com/example/tripleshard/tripleshard/sparql/Order" = some m.cls := findClass_of_methodNamed Bd.named
  have hnm := (name_of_methodNamed Bd.named Bd.method).1
  have X0 : Stand p l e ({ frames := 0, cells := 0, slots := 0, locals := 0 } : Room) s m #[(.int p3_0)] below meth c s₁ [] 0 0 := Stand.of_body Bd
  have e0 : s₁.heap = h0 := by rw [← hh, Bd.state]; rfl
  have N0 := Fr.nil n0
  have pre0 : ∀ t, Steps p.tables e below (s₁.setTop (mkF m 0 #[.val (.int p3_0), .unset] [])) t → Steps p.tables e below (s₁.setTop (entryFrame m #[(.int p3_0)] 2)) t := fun t k => castTop (ef_3 m p3_0) k
  obtain ⟨T1, X1, e1, st1⟩ := getS2 X0 hx hZ hown (host := "") (Or.inl (hVV 21 _ rfl)) Via.refl e0 (S_GREATER.ext O0.2) (g := (mkF m 15 #[.val (.int p3_0), .unset] [])) rfl (hb hby d3_15)
  have pre2 : ∀ t, Steps p.tables e below (T1.setTop (mkF m 18 #[.val (.int p3_0), .unset] [(.ref w3_GREATER)])) t → Steps p.tables e below (s₁.setTop (entryFrame m #[(.int p3_0)] 2)) t := fun t k => pre0 t (by
    show Steps p.tables e below (s₁.setTop (mkF m 0 #[.val (.int p3_0), .unset] [])) _
    refine XS.iloadN X0.here hx rfl (hb hby d3_0) rfl ?_
    show Steps p.tables e below (s₁.setTop (mkF m 1 #[.val (.int p3_0), .unset] [(.int p3_0)])) _
    refine XS.ifYes X0.here hx rfl (pc0 := 1) (pc' := 11) rfl (hb hby d3_1) rfl ((if0 _ _).trans (flt hp3_1).2.1) (by decide) (by decide) ?_
    show Steps p.tables e below (s₁.setTop (mkF m 11 #[.val (.int p3_0), .unset] [])) _
    refine XS.iloadN X0.here hx rfl (hb hby d3_11) rfl ?_
    show Steps p.tables e below (s₁.setTop (mkF m 12 #[.val (.int p3_0), .unset] [(.int p3_0)])) _
    refine XS.ifNo X0.here hx rfl (hb hby d3_12) rfl ((if0 _ _).trans (tlt hp3_12).2.2.2) ?_
    show Steps p.tables e below (s₁.setTop (mkF m 15 #[.val (.int p3_0), .unset] [])) _
    refine st1 _ ?_
    exact k)
  obtain ⟨fs, hr, hrun, hended, hW, hsame⟩ := X1.leave (v := some (.ref w3_GREATER)) (fun h => by rw [Bd.returns] at h; cases h)
  refine ⟨_, _, pre2 _ ?_, hrun, hended, _, _, rfl, ?_, ⟨_, rfl⟩, hW, hsame.mono (by decide) (by decide)⟩
  · show Steps p.tables e below (T1.setTop (mkF m 18 #[.val (.int p3_0), .unset] [(.ref w3_GREATER)])) _
    refine XS.astoreN X1.here hx rfl (hb hby d3_18) rfl rfl (l' := #[.val (.int p3_0), .val (.ref w3_GREATER)]) rfl ?_
    show Steps p.tables e below (T1.setTop (mkF m 19 #[.val (.int p3_0), .val (.ref w3_GREATER)] [])) _
    refine XS.goto X1.here hx rfl (pc0 := 19) (pc' := 26) rfl (hb hby d3_19) (by decide) (by decide) ?_
    show Steps p.tables e below (T1.setTop (mkF m 26 #[.val (.int p3_0), .val (.ref w3_GREATER)] [])) _
    refine XS.aloadN X1.here hx rfl (hb hby d3_26) rfl rfl ?_
    show Steps p.tables e below (T1.setTop (mkF m 27 #[.val (.int p3_0), .val (.ref w3_GREATER)] [(.ref w3_GREATER)])) _
    jvm_step X1.here [X1.here.top, hx, (hb hby d3_27), X1.method', Bd.returns, Value.isRef, FieldType.isReference]
    first | (intro acts; rw [hr _ acts rfl rfl rfl]) | rw [hr _ _ rfl rfl rfl]
    exact Steps.refl _
  · show Q3_p Z p3_0 w3_GREATER h0 n0 _ T1.heap _
    rw [e1]
    exact ⟨rfl, N0, rfl⟩
theorem d3_22 : decode prog_75_method_4_code 22 = .ok (.getstatic 7, 3) := by decide +kernel
theorem d3_25 : decode prog_75_method_4_code 25 = .ok (.astore_n 1, 1) := by decide +kernel
def Q3_z (Z : State) (p3_0 : Int32) (w3_EQUAL : Addr) (h0 : Heap) (n0 : Nat) (v : Option Value) (h : Heap) (L : List Loc) : Prop := v = some (.ref w3_EQUAL) ∧ Fr n0 L ∧ h = h0
set_option maxRecDepth 65536 in
set_option maxHeartbeats 40000000 in
theorem rm3_z (l : Launch) (Z : State) (a0 : Array Value) (hw : ∀ d ∈ tables_1, d.before a0 Z = true) (ws : List Jvm.Cond) (p3_0 : Int32) (w3_EQUAL : Addr) (h0 : Heap) (n0 : Nat) (Z0 : n0 ≤ h0.size) (O0 : Old Z n0 h0) (hp3_1 : ¬ (p3_0 < (0 : Int32))) (hp3_12 : ¬ ((0 : Int32) < p3_0)) (S_EQUAL : Sta Z Z.heap "com/example/tripleshard/tripleshard/sparql/Order" "EQUAL" "Lcom/example/tripleshard/tripleshard/sparql/Order;" (.ref w3_EQUAL)) :
    MetFree l (⟨"com/example/tripleshard/tripleshard/sparql/Order", "of", "(I)Lcom/example/tripleshard/tripleshard/sparql/Order;"⟩ : MethodName) (head1 (Jvm.Cond.code (⟨"com/example/tripleshard/tripleshard/sparql/Order", "of", "(I)Lcom/example/tripleshard/tripleshard/sparql/Order;"⟩ : MethodName) prog_75_method_4_code 2 (some (.object "com/example/tripleshard/tripleshard/sparql/Order")) :: ws) ({ frames := 0, cells := 0, slots := 0, locals := 0 } : Room)) (fun a U => a = #[(.int p3_0)] ∧ Z.Warmed39 U.vm ∧ U.heap = h0) (fun _ _ _ _ _ => True) (fun _ U o U' => ∃ v L, o = .returned v ∧ Q3_z Z p3_0 w3_EQUAL h0 n0 v U'.heap L ∧ FrameEnd U o U' L ({ frames := 0, cells := 0, slots := 0, locals := 0 } : Room).cells ({ frames := 0, cells := 0, slots := 0, locals := 0 } : Room).slots) := by
  refine MetFree.of_bodySF (plainFor_of_name pn_3) hisR ?_
  intro p e s m args below meth c s₁ Bd hml0 hP hK
  obtain ⟨rfl, hZ, hh⟩ := hP
  have hVV : ∀ (i : Nat) (d : Jvm.Cond), tables_1[i]? = some d → d.before a0 Z = true := fun i d h => hw d (List.mem_of_getElem? h)
  have hx := Bd.exec
  have hby := Bd.bytes
  have hml : c.maxLocals = 2 := hml0
  have hown : s.vm.findClass "com/example/tripleshard/tripleshard/sparql/Order" = some m.cls := findClass_of_methodNamed Bd.named
  have hnm := (name_of_methodNamed Bd.named Bd.method).1
  have X0 : Stand p l e ({ frames := 0, cells := 0, slots := 0, locals := 0 } : Room) s m #[(.int p3_0)] below meth c s₁ [] 0 0 := Stand.of_body Bd
  have e0 : s₁.heap = h0 := by rw [← hh, Bd.state]; rfl
  have N0 := Fr.nil n0
  have pre0 : ∀ t, Steps p.tables e below (s₁.setTop (mkF m 0 #[.val (.int p3_0), .unset] [])) t → Steps p.tables e below (s₁.setTop (entryFrame m #[(.int p3_0)] 2)) t := fun t k => castTop (ef_3 m p3_0) k
  obtain ⟨T1, X1, e1, st1⟩ := getS2 X0 hx hZ hown (host := "") (Or.inl (hVV 20 _ rfl)) Via.refl e0 (S_EQUAL.ext O0.2) (g := (mkF m 22 #[.val (.int p3_0), .unset] [])) rfl (hb hby d3_22)
  have pre2 : ∀ t, Steps p.tables e below (T1.setTop (mkF m 25 #[.val (.int p3_0), .unset] [(.ref w3_EQUAL)])) t → Steps p.tables e below (s₁.setTop (entryFrame m #[(.int p3_0)] 2)) t := fun t k => pre0 t (by
    show Steps p.tables e below (s₁.setTop (mkF m 0 #[.val (.int p3_0), .unset] [])) _
    refine XS.iloadN X0.here hx rfl (hb hby d3_0) rfl ?_
    show Steps p.tables e below (s₁.setTop (mkF m 1 #[.val (.int p3_0), .unset] [(.int p3_0)])) _
    refine XS.ifYes X0.here hx rfl (pc0 := 1) (pc' := 11) rfl (hb hby d3_1) rfl ((if0 _ _).trans (flt hp3_1).2.1) (by decide) (by decide) ?_
    show Steps p.tables e below (s₁.setTop (mkF m 11 #[.val (.int p3_0), .unset] [])) _
    refine XS.iloadN X0.here hx rfl (hb hby d3_11) rfl ?_
    show Steps p.tables e below (s₁.setTop (mkF m 12 #[.val (.int p3_0), .unset] [(.int p3_0)])) _
    refine XS.ifYes X0.here hx rfl (pc0 := 12) (pc' := 22) rfl (hb hby d3_12) rfl ((if0 _ _).trans (flt hp3_12).2.2.2) (by decide) (by decide) ?_
    show Steps p.tables e below (s₁.setTop (mkF m 22 #[.val (.int p3_0), .unset] [])) _
    refine st1 _ ?_
    exact k)
  obtain ⟨fs, hr, hrun, hended, hW, hsame⟩ := X1.leave (v := some (.ref w3_EQUAL)) (fun h => by rw [Bd.returns] at h; cases h)
  refine ⟨_, _, pre2 _ ?_, hrun, hended, _, _, rfl, ?_, ⟨_, rfl⟩, hW, hsame.mono (by decide) (by decide)⟩
  · show Steps p.tables e below (T1.setTop (mkF m 25 #[.val (.int p3_0), .unset] [(.ref w3_EQUAL)])) _
    refine XS.astoreN X1.here hx rfl (hb hby d3_25) rfl rfl (l' := #[.val (.int p3_0), .val (.ref w3_EQUAL)]) rfl ?_
    show Steps p.tables e below (T1.setTop (mkF m 26 #[.val (.int p3_0), .val (.ref w3_EQUAL)] [])) _
    refine XS.aloadN X1.here hx rfl (hb hby d3_26) rfl rfl ?_
    show Steps p.tables e below (T1.setTop (mkF m 27 #[.val (.int p3_0), .val (.ref w3_EQUAL)] [(.ref w3_EQUAL)])) _
    jvm_step X1.here [X1.here.top, hx, (hb hby d3_27), X1.method', Bd.returns, Value.isRef, FieldType.isReference]
    first | (intro acts; rw [hr _ acts rfl rfl rfl]) | rw [hr _ _ rfl rfl rfl]
    exact Steps.refl _
  · show Q3_z Z p3_0 w3_EQUAL h0 n0 _ T1.heap _
    rw [e1]
    exact ⟨rfl, N0, rfl⟩
theorem pd_0 : parseMethodDescriptor "(II)I" = some ⟨[.int, .int], some .int⟩ := by decide +kernel
theorem pd_1 : parseMethodDescriptor "(I)Lcom/example/tripleshard/tripleshard/sparql/Order;" = some ⟨[.int], some (.object "com/example/tripleshard/tripleshard/sparql/Order")⟩ := by decide +kernel
theorem pn_0 : plainName "com/example/tripleshard/tripleshard/sparql/OrderOfPinLaw" = true := by first | (simp [plainName, overriddenIn]; done) | decide +kernel
theorem ef_0 (m : MethodId) (x0 : Int32) : entryFrame m #[(.int x0)] maxLocals = mkF m 0 #[.val (.int x0), .unset, .unset, .unset, .unset] [] := by first | (simp [entryFrame, mkF, argsToLocals, Value.category, maxLocals]; done) | rfl
def Q0 (Z : State) (p0_0 : Int32) (w0_LESS : Addr) (w0_EQUAL : Addr) (w0_GREATER : Addr) (h0 : Heap) (n0 : Nat) (v : Option Value) (h : Heap) (L : List Loc) : Prop := v = some (.int (1 : Int32)) ∧ Fr n0 L
set_option maxRecDepth 65536 in
set_option maxHeartbeats 40000000 in
theorem rm0 (l : Launch) (Z : State) (a0 : Array Value) (hw : ∀ d ∈ tables_1, d.before a0 Z = true) (ws : List Jvm.Cond) (p0_0 : Int32) (w0_LESS : Addr) (w0_EQUAL : Addr) (w0_GREATER : Addr) (h0 : Heap) (n0 : Nat) (Z0 : n0 ≤ h0.size) (O0 : Old Z n0 h0) (S_LESS : Sta Z Z.heap "com/example/tripleshard/tripleshard/sparql/Order" "LESS" "Lcom/example/tripleshard/tripleshard/sparql/Order;" (.ref w0_LESS)) (S_EQUAL : Sta Z Z.heap "com/example/tripleshard/tripleshard/sparql/Order" "EQUAL" "Lcom/example/tripleshard/tripleshard/sparql/Order;" (.ref w0_EQUAL)) (S_GREATER : Sta Z Z.heap "com/example/tripleshard/tripleshard/sparql/Order" "GREATER" "Lcom/example/tripleshard/tripleshard/sparql/Order;" (.ref w0_GREATER)) (EE_LESS : Exa Z h0 w0_LESS "com/example/tripleshard/tripleshard/sparql/Order") (EE_EQUAL : Exa Z h0 w0_EQUAL "com/example/tripleshard/tripleshard/sparql/Order") (EE_GREATER : Exa Z h0 w0_GREATER "com/example/tripleshard/tripleshard/sparql/Order") :
    MetFree l x (head1 (Jvm.Cond.code x code maxLocals ret :: ws) room_1) (fun a U => a = #[(.int p0_0)] ∧ Z.Warmed39 U.vm ∧ U.heap = h0) (fun _ _ _ _ _ => True) (fun _ U o U' => ∃ v L, o = .returned v ∧ Q0 Z p0_0 w0_LESS w0_EQUAL w0_GREATER h0 n0 v U'.heap L ∧ FrameEnd U o U' L room_1.cells room_1.slots) := by
  refine MetFree.of_bodySF (plainFor_of_name pn_0) hisR ?_
  intro p e s m args below meth c s₁ Bd hml0 hP hK
  obtain ⟨rfl, hZ, hh⟩ := hP
  have hVV : ∀ (i : Nat) (d : Jvm.Cond), tables_1[i]? = some d → d.before a0 Z = true := fun i d h => hw d (List.mem_of_getElem? h)
  have hx := Bd.exec
  have hby := Bd.bytes
  have hml : c.maxLocals = 5 := hml0
  have hown : s.vm.findClass "com/example/tripleshard/tripleshard/sparql/OrderOfPinLaw" = some m.cls := findClass_of_methodNamed Bd.named
  have hnm := (name_of_methodNamed Bd.named Bd.method).1
  have X0 : Stand p l e room_1 s m #[(.int p0_0)] below meth c s₁ [] 0 0 := Stand.of_body Bd
  have e0 : s₁.heap = h0 := by rw [← hh, Bd.state]; rfl
  have N0 := Fr.nil n0
  have pre0 : ∀ t, Steps p.tables e below (s₁.setTop (mkF m 0 #[.val (.int p0_0), .unset, .unset, .unset, .unset] [])) t → Steps p.tables e below (s₁.setTop (entryFrame m #[(.int p0_0)] maxLocals)) t := fun t k => castTop (ef_0 m p0_0) k
  by_cases hneg : p0_0 < (0 : Int32)
  · obtain ⟨T1, h1, k1, X1, e1, E1, A1, O1, st1⟩ := newR X0 hx hZ hown (hVV 0 _ rfl) (hVV 1 _ rfl) e0 (g := (mkF m 1 #[.val (.int p0_0), .unset, .unset, .unset, .unset] [(.int (3 : Int32))])) rfl (hb hby at_1) rfl (by decide) (cap := 3) (by decide) (by decide) (by decide) (by decide)
    obtain ⟨b1, g1⟩ : ∃ z, z = h0.size := ⟨_, rfl⟩
    rw [← g1] at A1 st1
    have gz1 : n0 ≤ b1 := Nat.le_trans Z0 (Nat.le_of_eq g1.symm)
    have ne2 : w0_LESS ≠ b1 := Nat.ne_of_lt (Nat.lt_of_lt_of_le EE_LESS.lt (Nat.le_of_eq g1.symm))
    have ne3 : w0_EQUAL ≠ b1 := Nat.ne_of_lt (Nat.lt_of_lt_of_le EE_EQUAL.lt (Nat.le_of_eq g1.symm))
    have ne4 : w0_GREATER ≠ b1 := Nat.ne_of_lt (Nat.lt_of_lt_of_le EE_GREATER.lt (Nat.le_of_eq g1.symm))
    have pre5 : ∀ t, Steps p.tables e below (T1.setTop (mkF m 4 #[.val (.int p0_0), .unset, .unset, .unset, .unset] [(.ref b1)])) t → Steps p.tables e below (s₁.setTop (entryFrame m #[(.int p0_0)] maxLocals)) t := fun t k => pre0 t (by
      show Steps p.tables e below (s₁.setTop (mkF m 0 #[.val (.int p0_0), .unset, .unset, .unset, .unset] [])) _
      refine XS.iconst X0.here hx rfl (hb hby at_0) ?_
      show Steps p.tables e below (s₁.setTop (mkF m 1 #[.val (.int p0_0), .unset, .unset, .unset, .unset] [(.int (3 : Int32))])) _
      refine st1 _ ?_
      exact k)
    have f6 := EE_LESS.ext E1
    have f7 := EE_EQUAL.ext E1
    have f8 := EE_GREATER.ext E1
    have z9 := Nat.le_trans Z0 E1.1
    have o10 := O0.ext E1
    have V11 : Arv Z h1 b1 k1 (.object "com/example/tripleshard/tripleshard/sparql/Order") (3 : Int32) [.null, .null, .null] .null := (Arv.new A1 (by decide)).pad (pad_rep [] .null 3)
    obtain ⟨T12, X12, e12, st12⟩ := getS2 X1 hx hZ hown (host := "") (Or.inl (hVV 2 _ rfl)) Via.refl e1 (S_LESS.ext o10.2) (g := (mkF m 7 #[.val (.int p0_0), .val (.ref b1), .unset, .unset, .unset] [(.int (0 : Int32)), (.ref b1)])) rfl (hb hby at_7)
    have pre13 : ∀ t, Steps p.tables e below (T12.setTop (mkF m 10 #[.val (.int p0_0), .val (.ref b1), .unset, .unset, .unset] [(.ref w0_LESS), (.int (0 : Int32)), (.ref b1)])) t → Steps p.tables e below (s₁.setTop (entryFrame m #[(.int p0_0)] maxLocals)) t := fun t k => pre5 t (by
      show Steps p.tables e below (T1.setTop (mkF m 4 #[.val (.int p0_0), .unset, .unset, .unset, .unset] [(.ref b1)])) _
      refine XS.astoreN X1.here hx rfl (hb hby at_4) rfl rfl (l' := #[.val (.int p0_0), .val (.ref b1), .unset, .unset, .unset]) rfl ?_
      show Steps p.tables e below (T1.setTop (mkF m 5 #[.val (.int p0_0), .val (.ref b1), .unset, .unset, .unset] [])) _
      refine XS.aloadN X1.here hx rfl (hb hby at_5) rfl rfl ?_
      show Steps p.tables e below (T1.setTop (mkF m 6 #[.val (.int p0_0), .val (.ref b1), .unset, .unset, .unset] [(.ref b1)])) _
      refine XS.iconst X1.here hx rfl (hb hby at_6) ?_
      show Steps p.tables e below (T1.setTop (mkF m 7 #[.val (.int p0_0), .val (.ref b1), .unset, .unset, .unset] [(.int (0 : Int32)), (.ref b1)])) _
      refine st12 _ ?_
      exact k)
    obtain ⟨cl14, Ar14, q14, S14, N14, H14, G14⟩ := id V11
    have hin14 : ¬ ((0 : Int32) < 0 ∨ cl14.slots.size ≤ ((0 : Int32)).toNatClampNeg) := inb_of S14 ⟨by decide, by decide⟩
    obtain ⟨T14, h14, X14, e14, W14, st14⟩ := stR X12 hx hZ e12 Ar14 (j := (0 : Int32)) hin14 rfl (Sto.ofV Ar14 q14 O1 (Ins.self f6)) (g := (mkF m 10 #[.val (.int p0_0), .val (.ref b1), .unset, .unset, .unset] [(.ref w0_LESS), (.int (0 : Int32)), (.ref b1)])) rfl rfl (hb hby at_10)
    have V15 : Arv Z h14 b1 k1 (.object "com/example/tripleshard/tripleshard/sparql/Order") (3 : Int32) [(.ref w0_LESS), .null, .null] .null := Arv.set Ar14 q14 S14 N14 H14 G14 rfl W14 0 rfl (Nat.le_of_ble_eq_true rfl)
    have pre16 : ∀ t, Steps p.tables e below (T14.setTop (mkF m 11 #[.val (.int p0_0), .val (.ref b1), .unset, .unset, .unset] [])) t → Steps p.tables e below (s₁.setTop (entryFrame m #[(.int p0_0)] maxLocals)) t := fun t k => pre13 t (by
      show Steps p.tables e below (T12.setTop (mkF m 10 #[.val (.int p0_0), .val (.ref b1), .unset, .unset, .unset] [(.ref w0_LESS), (.int (0 : Int32)), (.ref b1)])) _
      refine st14 _ ?_
      exact k)
    have f17 := f6.wr W14
    have f18 := f7.wr W14
    have f19 := f8.wr W14
    have z20 := Nat.le_trans z9 (Keep.of_wr W14).1
    have o21 := o10.wr W14 gz1
    have N22 := Fr.snoc X14 N0 gz1
    obtain ⟨T23, X23, e23, st23⟩ := getS2 X14 hx hZ hown (host := "") (Or.inl (hVV 6 _ rfl)) Via.refl e14 (S_EQUAL.ext o21.2) (g := (mkF m 13 #[.val (.int p0_0), .val (.ref b1), .unset, .unset, .unset] [(.int (1 : Int32)), (.ref b1)])) rfl (hb hby at_13)
    have pre24 : ∀ t, Steps p.tables e below (T23.setTop (mkF m 16 #[.val (.int p0_0), .val (.ref b1), .unset, .unset, .unset] [(.ref w0_EQUAL), (.int (1 : Int32)), (.ref b1)])) t → Steps p.tables e below (s₁.setTop (entryFrame m #[(.int p0_0)] maxLocals)) t := fun t k => pre16 t (by
      show Steps p.tables e below (T14.setTop (mkF m 11 #[.val (.int p0_0), .val (.ref b1), .unset, .unset, .unset] [])) _
      refine XS.aloadN X14.here hx rfl (hb hby at_11) rfl rfl ?_
      show Steps p.tables e below (T14.setTop (mkF m 12 #[.val (.int p0_0), .val (.ref b1), .unset, .unset, .unset] [(.ref b1)])) _
      refine XS.iconst X14.here hx rfl (hb hby at_12) ?_
      show Steps p.tables e below (T14.setTop (mkF m 13 #[.val (.int p0_0), .val (.ref b1), .unset, .unset, .unset] [(.int (1 : Int32)), (.ref b1)])) _
      refine st23 _ ?_
      exact k)
    obtain ⟨cl25, Ar25, q25, S25, N25, H25, G25⟩ := id V15
    have hin25 : ¬ ((1 : Int32) < 0 ∨ cl25.slots.size ≤ ((1 : Int32)).toNatClampNeg) := inb_of S25 ⟨by decide, by decide⟩
    obtain ⟨T25, h25, X25, e25, W25, st25⟩ := stR X23 hx hZ e23 Ar25 (j := (1 : Int32)) hin25 rfl (Sto.ofV Ar25 q25 O1 (Ins.self f18)) (g := (mkF m 16 #[.val (.int p0_0), .val (.ref b1), .unset, .unset, .unset] [(.ref w0_EQUAL), (.int (1 : Int32)), (.ref b1)])) rfl rfl (hb hby at_16)
    have V26 : Arv Z h25 b1 k1 (.object "com/example/tripleshard/tripleshard/sparql/Order") (3 : Int32) [(.ref w0_LESS), (.ref w0_EQUAL), .null] .null := Arv.set Ar25 q25 S25 N25 H25 G25 rfl W25 1 rfl (Nat.le_of_ble_eq_true rfl)
    have pre27 : ∀ t, Steps p.tables e below (T25.setTop (mkF m 17 #[.val (.int p0_0), .val (.ref b1), .unset, .unset, .unset] [])) t → Steps p.tables e below (s₁.setTop (entryFrame m #[(.int p0_0)] maxLocals)) t := fun t k => pre24 t (by
      show Steps p.tables e below (T23.setTop (mkF m 16 #[.val (.int p0_0), .val (.ref b1), .unset, .unset, .unset] [(.ref w0_EQUAL), (.int (1 : Int32)), (.ref b1)])) _
      refine st25 _ ?_
      exact k)
    have f28 := f17.wr W25
    have f29 := f18.wr W25
    have f30 := f19.wr W25
    have z31 := Nat.le_trans z20 (Keep.of_wr W25).1
    have o32 := o21.wr W25 gz1
    have N33 := Fr.snoc X25 N22 gz1
    obtain ⟨T34, X34, e34, st34⟩ := getS2 X25 hx hZ hown (host := "") (Or.inl (hVV 8 _ rfl)) Via.refl e25 (S_GREATER.ext o32.2) (g := (mkF m 19 #[.val (.int p0_0), .val (.ref b1), .unset, .unset, .unset] [(.int (2 : Int32)), (.ref b1)])) rfl (hb hby at_19)
    have pre35 : ∀ t, Steps p.tables e below (T34.setTop (mkF m 22 #[.val (.int p0_0), .val (.ref b1), .unset, .unset, .unset] [(.ref w0_GREATER), (.int (2 : Int32)), (.ref b1)])) t → Steps p.tables e below (s₁.setTop (entryFrame m #[(.int p0_0)] maxLocals)) t := fun t k => pre27 t (by
      show Steps p.tables e below (T25.setTop (mkF m 17 #[.val (.int p0_0), .val (.ref b1), .unset, .unset, .unset] [])) _
      refine XS.aloadN X25.here hx rfl (hb hby at_17) rfl rfl ?_
      show Steps p.tables e below (T25.setTop (mkF m 18 #[.val (.int p0_0), .val (.ref b1), .unset, .unset, .unset] [(.ref b1)])) _
      refine XS.iconst X25.here hx rfl (hb hby at_18) ?_
      show Steps p.tables e below (T25.setTop (mkF m 19 #[.val (.int p0_0), .val (.ref b1), .unset, .unset, .unset] [(.int (2 : Int32)), (.ref b1)])) _
      refine st34 _ ?_
      exact k)
    obtain ⟨cl36, Ar36, q36, S36, N36, H36, G36⟩ := id V26
    have hin36 : ¬ ((2 : Int32) < 0 ∨ cl36.slots.size ≤ ((2 : Int32)).toNatClampNeg) := inb_of S36 ⟨by decide, by decide⟩
    obtain ⟨T36, h36, X36, e36, W36, st36⟩ := stR X34 hx hZ e34 Ar36 (j := (2 : Int32)) hin36 rfl (Sto.ofV Ar36 q36 O1 (Ins.self f30)) (g := (mkF m 22 #[.val (.int p0_0), .val (.ref b1), .unset, .unset, .unset] [(.ref w0_GREATER), (.int (2 : Int32)), (.ref b1)])) rfl rfl (hb hby at_22)
    have V37 : Arv Z h36 b1 k1 (.object "com/example/tripleshard/tripleshard/sparql/Order") (3 : Int32) [(.ref w0_LESS), (.ref w0_EQUAL), (.ref w0_GREATER)] .null := Arv.set Ar36 q36 S36 N36 H36 G36 rfl W36 2 rfl (Nat.le_of_ble_eq_true rfl)
    have pre38 : ∀ t, Steps p.tables e below (T36.setTop (mkF m 23 #[.val (.int p0_0), .val (.ref b1), .unset, .unset, .unset] [])) t → Steps p.tables e below (s₁.setTop (entryFrame m #[(.int p0_0)] maxLocals)) t := fun t k => pre35 t (by
      show Steps p.tables e below (T34.setTop (mkF m 22 #[.val (.int p0_0), .val (.ref b1), .unset, .unset, .unset] [(.ref w0_GREATER), (.int (2 : Int32)), (.ref b1)])) _
      refine st36 _ ?_
      exact k)
    have f39 := f28.wr W36
    have f40 := f29.wr W36
    have f41 := f30.wr W36
    have z42 := Nat.le_trans z31 (Keep.of_wr W36).1
    have o43 := o32.wr W36 gz1
    have N44 := Fr.snoc X36 N33 gz1
    obtain ⟨_, _, ⟨T45, L45, k45, n45⟩, -, X45, ⟨Lc45, hQ45, l45, y45, z45⟩, st45⟩ := Jvm.LawKit.callS X36 hx (y := (⟨"java/lang/Math", "min", "(II)I"⟩ : MethodName)) hown (mvT hZ (hVV 10 _ rfl)) (mvT hZ (hVV 11 _ rfl)) (mvT hZ (hVV 12 _ rfl)) (mvT hZ (hVV 13 _ rfl)) (by decide) (backOf (W := 1) (rm1 l Z a0 hw [] (1 : Int32) p0_0 h36 n0 z42 ) hZ (hVV 13 _ rfl) (hVV 12 _ rfl) (by decide) (by decide)) (g := (mkF m 26 #[.val (.int p0_0), .val (.ref b1), .unset, .unset, .unset] [(.int p0_0), (.int (1 : Int32)), (.int (-1 : Int32))])) rfl (by rw [hml]; rfl) (argsL := [(.int (1 : Int32)), (.int p0_0)]) (rest := [(.int (-1 : Int32))]) (lenOf pd_0 rfl) rfl (by show 2 * 0 + _ ≤ _; exact Nat.le_of_eq rfl) (hb hby at_26) (fun _ _ => ⟨rfl, e36, (by decide : 1 + 0 ≤ _), (by decide : 3 + 0 ≤ _)⟩)
    dsimp only [Pt.U, Pt.locs, Pt.cells, Pt.slots] at X45 l45 y45 z45 st45 hQ45
    subst l45 y45 z45
    obtain ⟨rfl, N45q, e45⟩ := hQ45
    have N46 := Fr.app N44 N45q
    have pre47 : ∀ t, Steps p.tables e below (T45.setTop (mkF m 29 #[.val (.int p0_0), .val (.ref b1), .unset, .unset, .unset] [(.int (if p0_0 < (1 : Int32) then p0_0 else (1 : Int32))), (.int (-1 : Int32))])) t → Steps p.tables e below (s₁.setTop (entryFrame m #[(.int p0_0)] maxLocals)) t := fun t k => pre38 t (by
      show Steps p.tables e below (T36.setTop (mkF m 23 #[.val (.int p0_0), .val (.ref b1), .unset, .unset, .unset] [])) _
      refine XS.iconst X36.here hx rfl (hb hby at_23) ?_
      show Steps p.tables e below (T36.setTop (mkF m 24 #[.val (.int p0_0), .val (.ref b1), .unset, .unset, .unset] [(.int (-1 : Int32))])) _
      refine XS.iconst X36.here hx rfl (hb hby at_24) ?_
      show Steps p.tables e below (T36.setTop (mkF m 25 #[.val (.int p0_0), .val (.ref b1), .unset, .unset, .unset] [(.int (1 : Int32)), (.int (-1 : Int32))])) _
      refine XS.iloadN X36.here hx rfl (hb hby at_25) rfl ?_
      show Steps p.tables e below (T36.setTop (mkF m 26 #[.val (.int p0_0), .val (.ref b1), .unset, .unset, .unset] [(.int p0_0), (.int (1 : Int32)), (.int (-1 : Int32))])) _
      refine st45 _ ?_
      exact k)
    obtain ⟨_, _, ⟨T48, L48, k48, n48⟩, -, X48, ⟨Lc48, hQ48, l48, y48, z48⟩, st48⟩ := Jvm.LawKit.callS X45 hx (y := (⟨"java/lang/Math", "max", "(II)I"⟩ : MethodName)) hown (mvT hZ (hVV 14 _ rfl)) (mvT hZ (hVV 15 _ rfl)) (mvT hZ (hVV 12 _ rfl)) (mvT hZ (hVV 16 _ rfl)) (by decide) (backOf (W := 0) (rm2 l Z a0 hw [] (-1 : Int32) (if p0_0 < (1 : Int32) then p0_0 else (1 : Int32)) h36 n0 z42 ) hZ (hVV 16 _ rfl) (hVV 12 _ rfl) (by decide) (by decide)) (g := (mkF m 29 #[.val (.int p0_0), .val (.ref b1), .unset, .unset, .unset] [(.int (if p0_0 < (1 : Int32) then p0_0 else (1 : Int32))), (.int (-1 : Int32))])) rfl (by rw [hml]; rfl) (argsL := [(.int (-1 : Int32)), (.int (if p0_0 < (1 : Int32) then p0_0 else (1 : Int32)))]) (rest := []) (lenOf pd_0 rfl) rfl (by show 2 * 0 + _ ≤ _; exact Nat.le_of_eq rfl) (hb hby at_29) (fun _ _ => ⟨rfl, e45, (by decide : 1 + 0 ≤ _), (by decide : 3 + 0 ≤ _)⟩)
    dsimp only [Pt.U, Pt.locs, Pt.cells, Pt.slots] at X48 l48 y48 z48 st48 hQ48
    subst l48 y48 z48
    obtain ⟨rfl, N48q, e48⟩ := hQ48
    have N49 := Fr.app N46 N48q
    have pre50 : ∀ t, Steps p.tables e below (T48.setTop (mkF m 32 #[.val (.int p0_0), .val (.ref b1), .unset, .unset, .unset] [(.int (if (-1 : Int32) < (if p0_0 < (1 : Int32) then p0_0 else (1 : Int32)) then (if p0_0 < (1 : Int32) then p0_0 else (1 : Int32)) else (-1 : Int32)))])) t → Steps p.tables e below (s₁.setTop (entryFrame m #[(.int p0_0)] maxLocals)) t := fun t k => pre47 t (by
      show Steps p.tables e below (T45.setTop (mkF m 29 #[.val (.int p0_0), .val (.ref b1), .unset, .unset, .unset] [(.int (if p0_0 < (1 : Int32) then p0_0 else (1 : Int32))), (.int (-1 : Int32))])) _
      refine st48 _ ?_
      exact k)
    have pre51 : ∀ t, Steps p.tables e below (T48.setTop (mkF m 35 #[.val (.int p0_0), .val (.ref b1), .val (.int ((if (-1 : Int32) < (if p0_0 < (1 : Int32) then p0_0 else (1 : Int32)) then (if p0_0 < (1 : Int32) then p0_0 else (1 : Int32)) else (-1 : Int32)) + (1 : Int32))), .unset, .unset] [])) t → Steps p.tables e below (s₁.setTop (entryFrame m #[(.int p0_0)] maxLocals)) t := fun t k => pre50 t (by
      show Steps p.tables e below (T48.setTop (mkF m 32 #[.val (.int p0_0), .val (.ref b1), .unset, .unset, .unset] [(.int (if (-1 : Int32) < (if p0_0 < (1 : Int32) then p0_0 else (1 : Int32)) then (if p0_0 < (1 : Int32) then p0_0 else (1 : Int32)) else (-1 : Int32)))])) _
      refine XS.iconst X48.here hx rfl (hb hby at_32) ?_
      show Steps p.tables e below (T48.setTop (mkF m 33 #[.val (.int p0_0), .val (.ref b1), .unset, .unset, .unset] [(.int (1 : Int32)), (.int (if (-1 : Int32) < (if p0_0 < (1 : Int32) then p0_0 else (1 : Int32)) then (if p0_0 < (1 : Int32) then p0_0 else (1 : Int32)) else (-1 : Int32)))])) _
      refine XS.iadd X48.here hx rfl (hb hby at_33) rfl ?_
      show Steps p.tables e below (T48.setTop (mkF m 34 #[.val (.int p0_0), .val (.ref b1), .unset, .unset, .unset] [(.int ((if (-1 : Int32) < (if p0_0 < (1 : Int32) then p0_0 else (1 : Int32)) then (if p0_0 < (1 : Int32) then p0_0 else (1 : Int32)) else (-1 : Int32)) + (1 : Int32)))])) _
      refine XS.istoreN X48.here hx rfl (hb hby at_34) rfl (l' := #[.val (.int p0_0), .val (.ref b1), .val (.int ((if (-1 : Int32) < (if p0_0 < (1 : Int32) then p0_0 else (1 : Int32)) then (if p0_0 < (1 : Int32) then p0_0 else (1 : Int32)) else (-1 : Int32)) + (1 : Int32))), .unset, .unset]) rfl ?_
      exact k)
    have hl52 : ((if (-1 : Int32) < (if p0_0 < (1 : Int32) then p0_0 else (1 : Int32)) then (if p0_0 < (1 : Int32) then p0_0 else (1 : Int32)) else (-1 : Int32)) + (1 : Int32)) = (0 : Int32) := by
      exact own_neg _ hneg
    have pre53 : ∀ t, Steps p.tables e below (T48.setTop (mkF m 35 #[.val (.int p0_0), .val (.ref b1), .val (.int (0 : Int32)), .unset, .unset] [])) t → Steps p.tables e below (s₁.setTop (entryFrame m #[(.int p0_0)] maxLocals)) t := fun t k => pre51 t (castTop (by rw [hl52]) k)
    obtain ⟨cl54, Ar54, q54, S54, N54, H54, G54⟩ := id V37
    have hin54 : ¬ ((0 : Int32) < 0 ∨ cl54.slots.size ≤ ((0 : Int32)).toNatClampNeg) := inb_of S54 ⟨by decide, by decide⟩
    have hat54 : cl54.slots[((0 : Int32)).toNatClampNeg]? = some (.ref w0_LESS) := Has.at H54 hin54 rfl
    have hq56 : p0_0 < (0 : Int32) := by
      first | exact hneg | exact hpos | (intro q; rw [Int32.lt_iff_toInt_lt] at q hpos; omega)
    obtain ⟨_, _, ⟨T55, L55, k55, n55⟩, -, X55, ⟨Lc55, hQ55, l55, y55, z55⟩, st55⟩ := Jvm.LawKit.callS X48 hx (y := (⟨"com/example/tripleshard/tripleshard/sparql/Order", "of", "(I)Lcom/example/tripleshard/tripleshard/sparql/Order;"⟩ : MethodName)) hown (mvT hZ (hVV 17 _ rfl)) (mvT hZ (hVV 18 _ rfl)) (mvT hZ (hVV 3 _ rfl)) (mvT hZ (hVV 19 _ rfl)) (by decide) (backOf (W := 0) (rm3_n l Z a0 hw [] p0_0 w0_LESS h36 n0 z42 o43 hq56 S_LESS) hZ (hVV 19 _ rfl) (hVV 3 _ rfl) (by decide) (by decide)) (g := (mkF m 40 #[.val (.int p0_0), .val (.ref b1), .val (.int (0 : Int32)), .val (.ref w0_LESS), .unset] [(.int p0_0)])) rfl (by rw [hml]; rfl) (argsL := [(.int p0_0)]) (rest := []) (lenOf pd_1 rfl) rfl (by show 2 * 0 + _ ≤ _; exact Nat.le_of_eq rfl) (hb hby at_40) (fun _ _ => ⟨rfl, e48, (by decide : 1 + 0 ≤ _), (by decide : 3 + 0 ≤ _)⟩)
    dsimp only [Pt.U, Pt.locs, Pt.cells, Pt.slots] at X55 l55 y55 z55 st55 hQ55
    subst l55 y55 z55
    obtain ⟨rfl, N55q, e55⟩ := hQ55
    have N57 := Fr.app N49 N55q
    have pre58 : ∀ t, Steps p.tables e below (T55.setTop (mkF m 43 #[.val (.int p0_0), .val (.ref b1), .val (.int (0 : Int32)), .val (.ref w0_LESS), .unset] [(.ref w0_LESS)])) t → Steps p.tables e below (s₁.setTop (entryFrame m #[(.int p0_0)] maxLocals)) t := fun t k => pre53 t (by
      show Steps p.tables e below (T48.setTop (mkF m 35 #[.val (.int p0_0), .val (.ref b1), .val (.int (0 : Int32)), .unset, .unset] [])) _
      refine XS.aloadN X48.here hx rfl (hb hby at_35) rfl rfl ?_
      show Steps p.tables e below (T48.setTop (mkF m 36 #[.val (.int p0_0), .val (.ref b1), .val (.int (0 : Int32)), .unset, .unset] [(.ref b1)])) _
      refine XS.iloadN X48.here hx rfl (hb hby at_36) rfl ?_
      show Steps p.tables e below (T48.setTop (mkF m 37 #[.val (.int p0_0), .val (.ref b1), .val (.int (0 : Int32)), .unset, .unset] [(.int (0 : Int32)), (.ref b1)])) _
      refine X48.aaload hx (j := (0 : Int32)) (v := (.ref w0_LESS)) (by rw [e48]; exact Ar54.1) (State.isArrayOf_alike hZ.alike Ar54.2.1) rfl Ar54.2.2 hin54 hat54 (g := (mkF m 37 #[.val (.int p0_0), .val (.ref b1), .val (.int (0 : Int32)), .unset, .unset] [(.int (0 : Int32)), (.ref b1)])) rfl rfl (hb hby at_37) _ ?_
      show Steps p.tables e below (T48.setTop (mkF m 38 #[.val (.int p0_0), .val (.ref b1), .val (.int (0 : Int32)), .unset, .unset] [(.ref w0_LESS)])) _
      refine XS.astoreN X48.here hx rfl (hb hby at_38) rfl rfl (l' := #[.val (.int p0_0), .val (.ref b1), .val (.int (0 : Int32)), .val (.ref w0_LESS), .unset]) rfl ?_
      show Steps p.tables e below (T48.setTop (mkF m 39 #[.val (.int p0_0), .val (.ref b1), .val (.int (0 : Int32)), .val (.ref w0_LESS), .unset] [])) _
      refine XS.iloadN X48.here hx rfl (hb hby at_39) rfl ?_
      show Steps p.tables e below (T48.setTop (mkF m 40 #[.val (.int p0_0), .val (.ref b1), .val (.int (0 : Int32)), .val (.ref w0_LESS), .unset] [(.int p0_0)])) _
      refine st55 _ ?_
      exact k)
    obtain ⟨fs, hr, hrun, hended, hW, hsame⟩ := X55.leave (v := some (.int (1 : Int32))) (fun h => by rw [Bd.returns] at h; cases h)
    refine ⟨_, _, pre58 _ ?_, hrun, hended, _, _, rfl, ?_, ⟨_, rfl⟩, hW, hsame.mono (by decide) (by decide)⟩
    · show Steps p.tables e below (T55.setTop (mkF m 43 #[.val (.int p0_0), .val (.ref b1), .val (.int (0 : Int32)), .val (.ref w0_LESS), .unset] [(.ref w0_LESS)])) _
      refine XS.astore X55.here hx rfl (hb hby at_43) rfl rfl (l' := #[.val (.int p0_0), .val (.ref b1), .val (.int (0 : Int32)), .val (.ref w0_LESS), .val (.ref w0_LESS)]) rfl ?_
      show Steps p.tables e below (T55.setTop (mkF m 45 #[.val (.int p0_0), .val (.ref b1), .val (.int (0 : Int32)), .val (.ref w0_LESS), .val (.ref w0_LESS)] [])) _
      refine XS.aload X55.here hx rfl (hb hby at_45) rfl rfl ?_
      show Steps p.tables e below (T55.setTop (mkF m 47 #[.val (.int p0_0), .val (.ref b1), .val (.int (0 : Int32)), .val (.ref w0_LESS), .val (.ref w0_LESS)] [(.ref w0_LESS)])) _
      refine XS.aloadN X55.here hx rfl (hb hby at_47) rfl rfl ?_
      show Steps p.tables e below (T55.setTop (mkF m 48 #[.val (.int p0_0), .val (.ref b1), .val (.int (0 : Int32)), .val (.ref w0_LESS), .val (.ref w0_LESS)] [(.ref w0_LESS), (.ref w0_LESS)])) _
      refine Jvm.RoadKit.acmp (g := (mkF m 48 #[.val (.int p0_0), .val (.ref b1), .val (.int (0 : Int32)), .val (.ref w0_LESS), .val (.ref w0_LESS)] [(.ref w0_LESS), (.ref w0_LESS)])) X55 hx rfl rfl rfl (pc0 := 48) (pc' := 51) (same := true) rfl (hb hby at_48) rfl (decide_eq_true rfl) (by decide) (by decide) ?_
      show Steps p.tables e below (T55.setTop (mkF m 51 #[.val (.int p0_0), .val (.ref b1), .val (.int (0 : Int32)), .val (.ref w0_LESS), .val (.ref w0_LESS)] [])) _
      refine XS.iconst X55.here hx rfl (hb hby at_51) ?_
      show Steps p.tables e below (T55.setTop (mkF m 52 #[.val (.int p0_0), .val (.ref b1), .val (.int (0 : Int32)), .val (.ref w0_LESS), .val (.ref w0_LESS)] [(.int (1 : Int32))])) _
      refine XS.goto X55.here hx rfl (pc0 := 52) (pc' := 56) rfl (hb hby at_52) (by decide) (by decide) ?_
      show Steps p.tables e below (T55.setTop (mkF m 56 #[.val (.int p0_0), .val (.ref b1), .val (.int (0 : Int32)), .val (.ref w0_LESS), .val (.ref w0_LESS)] [(.int (1 : Int32))])) _
      exact retN X55 hx (t := .boolean) Bd.returns (by simp) (hb hby at_56) hr
    · show Q0 Z p0_0 w0_LESS w0_EQUAL w0_GREATER h0 n0 _ T55.heap _
      rw [e55]
      exact ⟨rfl, N57⟩
  · by_cases hpos : (0 : Int32) < p0_0
    · obtain ⟨T59, h59, k59, X59, e59, E59, A59, O59, st59⟩ := newR X0 hx hZ hown (hVV 0 _ rfl) (hVV 1 _ rfl) e0 (g := (mkF m 1 #[.val (.int p0_0), .unset, .unset, .unset, .unset] [(.int (3 : Int32))])) rfl (hb hby at_1) rfl (by decide) (cap := 3) (by decide) (by decide) (by decide) (by decide)
      obtain ⟨b59, g59⟩ : ∃ z, z = h0.size := ⟨_, rfl⟩
      rw [← g59] at A59 st59
      have gz59 : n0 ≤ b59 := Nat.le_trans Z0 (Nat.le_of_eq g59.symm)
      have ne60 : w0_LESS ≠ b59 := Nat.ne_of_lt (Nat.lt_of_lt_of_le EE_LESS.lt (Nat.le_of_eq g59.symm))
      have ne61 : w0_EQUAL ≠ b59 := Nat.ne_of_lt (Nat.lt_of_lt_of_le EE_EQUAL.lt (Nat.le_of_eq g59.symm))
      have ne62 : w0_GREATER ≠ b59 := Nat.ne_of_lt (Nat.lt_of_lt_of_le EE_GREATER.lt (Nat.le_of_eq g59.symm))
      have pre63 : ∀ t, Steps p.tables e below (T59.setTop (mkF m 4 #[.val (.int p0_0), .unset, .unset, .unset, .unset] [(.ref b59)])) t → Steps p.tables e below (s₁.setTop (entryFrame m #[(.int p0_0)] maxLocals)) t := fun t k => pre0 t (by
        show Steps p.tables e below (s₁.setTop (mkF m 0 #[.val (.int p0_0), .unset, .unset, .unset, .unset] [])) _
        refine XS.iconst X0.here hx rfl (hb hby at_0) ?_
        show Steps p.tables e below (s₁.setTop (mkF m 1 #[.val (.int p0_0), .unset, .unset, .unset, .unset] [(.int (3 : Int32))])) _
        refine st59 _ ?_
        exact k)
      have f64 := EE_LESS.ext E59
      have f65 := EE_EQUAL.ext E59
      have f66 := EE_GREATER.ext E59
      have z67 := Nat.le_trans Z0 E59.1
      have o68 := O0.ext E59
      have V69 : Arv Z h59 b59 k59 (.object "com/example/tripleshard/tripleshard/sparql/Order") (3 : Int32) [.null, .null, .null] .null := (Arv.new A59 (by decide)).pad (pad_rep [] .null 3)
      obtain ⟨T70, X70, e70, st70⟩ := getS2 X59 hx hZ hown (host := "") (Or.inl (hVV 2 _ rfl)) Via.refl e59 (S_LESS.ext o68.2) (g := (mkF m 7 #[.val (.int p0_0), .val (.ref b59), .unset, .unset, .unset] [(.int (0 : Int32)), (.ref b59)])) rfl (hb hby at_7)
      have pre71 : ∀ t, Steps p.tables e below (T70.setTop (mkF m 10 #[.val (.int p0_0), .val (.ref b59), .unset, .unset, .unset] [(.ref w0_LESS), (.int (0 : Int32)), (.ref b59)])) t → Steps p.tables e below (s₁.setTop (entryFrame m #[(.int p0_0)] maxLocals)) t := fun t k => pre63 t (by
        show Steps p.tables e below (T59.setTop (mkF m 4 #[.val (.int p0_0), .unset, .unset, .unset, .unset] [(.ref b59)])) _
        refine XS.astoreN X59.here hx rfl (hb hby at_4) rfl rfl (l' := #[.val (.int p0_0), .val (.ref b59), .unset, .unset, .unset]) rfl ?_
        show Steps p.tables e below (T59.setTop (mkF m 5 #[.val (.int p0_0), .val (.ref b59), .unset, .unset, .unset] [])) _
        refine XS.aloadN X59.here hx rfl (hb hby at_5) rfl rfl ?_
        show Steps p.tables e below (T59.setTop (mkF m 6 #[.val (.int p0_0), .val (.ref b59), .unset, .unset, .unset] [(.ref b59)])) _
        refine XS.iconst X59.here hx rfl (hb hby at_6) ?_
        show Steps p.tables e below (T59.setTop (mkF m 7 #[.val (.int p0_0), .val (.ref b59), .unset, .unset, .unset] [(.int (0 : Int32)), (.ref b59)])) _
        refine st70 _ ?_
        exact k)
      obtain ⟨cl72, Ar72, q72, S72, N72, H72, G72⟩ := id V69
      have hin72 : ¬ ((0 : Int32) < 0 ∨ cl72.slots.size ≤ ((0 : Int32)).toNatClampNeg) := inb_of S72 ⟨by decide, by decide⟩
      obtain ⟨T72, h72, X72, e72, W72, st72⟩ := stR X70 hx hZ e70 Ar72 (j := (0 : Int32)) hin72 rfl (Sto.ofV Ar72 q72 O59 (Ins.self f64)) (g := (mkF m 10 #[.val (.int p0_0), .val (.ref b59), .unset, .unset, .unset] [(.ref w0_LESS), (.int (0 : Int32)), (.ref b59)])) rfl rfl (hb hby at_10)
      have V73 : Arv Z h72 b59 k59 (.object "com/example/tripleshard/tripleshard/sparql/Order") (3 : Int32) [(.ref w0_LESS), .null, .null] .null := Arv.set Ar72 q72 S72 N72 H72 G72 rfl W72 0 rfl (Nat.le_of_ble_eq_true rfl)
      have pre74 : ∀ t, Steps p.tables e below (T72.setTop (mkF m 11 #[.val (.int p0_0), .val (.ref b59), .unset, .unset, .unset] [])) t → Steps p.tables e below (s₁.setTop (entryFrame m #[(.int p0_0)] maxLocals)) t := fun t k => pre71 t (by
        show Steps p.tables e below (T70.setTop (mkF m 10 #[.val (.int p0_0), .val (.ref b59), .unset, .unset, .unset] [(.ref w0_LESS), (.int (0 : Int32)), (.ref b59)])) _
        refine st72 _ ?_
        exact k)
      have f75 := f64.wr W72
      have f76 := f65.wr W72
      have f77 := f66.wr W72
      have z78 := Nat.le_trans z67 (Keep.of_wr W72).1
      have o79 := o68.wr W72 gz59
      have N80 := Fr.snoc X72 N0 gz59
      obtain ⟨T81, X81, e81, st81⟩ := getS2 X72 hx hZ hown (host := "") (Or.inl (hVV 6 _ rfl)) Via.refl e72 (S_EQUAL.ext o79.2) (g := (mkF m 13 #[.val (.int p0_0), .val (.ref b59), .unset, .unset, .unset] [(.int (1 : Int32)), (.ref b59)])) rfl (hb hby at_13)
      have pre82 : ∀ t, Steps p.tables e below (T81.setTop (mkF m 16 #[.val (.int p0_0), .val (.ref b59), .unset, .unset, .unset] [(.ref w0_EQUAL), (.int (1 : Int32)), (.ref b59)])) t → Steps p.tables e below (s₁.setTop (entryFrame m #[(.int p0_0)] maxLocals)) t := fun t k => pre74 t (by
        show Steps p.tables e below (T72.setTop (mkF m 11 #[.val (.int p0_0), .val (.ref b59), .unset, .unset, .unset] [])) _
        refine XS.aloadN X72.here hx rfl (hb hby at_11) rfl rfl ?_
        show Steps p.tables e below (T72.setTop (mkF m 12 #[.val (.int p0_0), .val (.ref b59), .unset, .unset, .unset] [(.ref b59)])) _
        refine XS.iconst X72.here hx rfl (hb hby at_12) ?_
        show Steps p.tables e below (T72.setTop (mkF m 13 #[.val (.int p0_0), .val (.ref b59), .unset, .unset, .unset] [(.int (1 : Int32)), (.ref b59)])) _
        refine st81 _ ?_
        exact k)
      obtain ⟨cl83, Ar83, q83, S83, N83, H83, G83⟩ := id V73
      have hin83 : ¬ ((1 : Int32) < 0 ∨ cl83.slots.size ≤ ((1 : Int32)).toNatClampNeg) := inb_of S83 ⟨by decide, by decide⟩
      obtain ⟨T83, h83, X83, e83, W83, st83⟩ := stR X81 hx hZ e81 Ar83 (j := (1 : Int32)) hin83 rfl (Sto.ofV Ar83 q83 O59 (Ins.self f76)) (g := (mkF m 16 #[.val (.int p0_0), .val (.ref b59), .unset, .unset, .unset] [(.ref w0_EQUAL), (.int (1 : Int32)), (.ref b59)])) rfl rfl (hb hby at_16)
      have V84 : Arv Z h83 b59 k59 (.object "com/example/tripleshard/tripleshard/sparql/Order") (3 : Int32) [(.ref w0_LESS), (.ref w0_EQUAL), .null] .null := Arv.set Ar83 q83 S83 N83 H83 G83 rfl W83 1 rfl (Nat.le_of_ble_eq_true rfl)
      have pre85 : ∀ t, Steps p.tables e below (T83.setTop (mkF m 17 #[.val (.int p0_0), .val (.ref b59), .unset, .unset, .unset] [])) t → Steps p.tables e below (s₁.setTop (entryFrame m #[(.int p0_0)] maxLocals)) t := fun t k => pre82 t (by
        show Steps p.tables e below (T81.setTop (mkF m 16 #[.val (.int p0_0), .val (.ref b59), .unset, .unset, .unset] [(.ref w0_EQUAL), (.int (1 : Int32)), (.ref b59)])) _
        refine st83 _ ?_
        exact k)
      have f86 := f75.wr W83
      have f87 := f76.wr W83
      have f88 := f77.wr W83
      have z89 := Nat.le_trans z78 (Keep.of_wr W83).1
      have o90 := o79.wr W83 gz59
      have N91 := Fr.snoc X83 N80 gz59
      obtain ⟨T92, X92, e92, st92⟩ := getS2 X83 hx hZ hown (host := "") (Or.inl (hVV 8 _ rfl)) Via.refl e83 (S_GREATER.ext o90.2) (g := (mkF m 19 #[.val (.int p0_0), .val (.ref b59), .unset, .unset, .unset] [(.int (2 : Int32)), (.ref b59)])) rfl (hb hby at_19)
      have pre93 : ∀ t, Steps p.tables e below (T92.setTop (mkF m 22 #[.val (.int p0_0), .val (.ref b59), .unset, .unset, .unset] [(.ref w0_GREATER), (.int (2 : Int32)), (.ref b59)])) t → Steps p.tables e below (s₁.setTop (entryFrame m #[(.int p0_0)] maxLocals)) t := fun t k => pre85 t (by
        show Steps p.tables e below (T83.setTop (mkF m 17 #[.val (.int p0_0), .val (.ref b59), .unset, .unset, .unset] [])) _
        refine XS.aloadN X83.here hx rfl (hb hby at_17) rfl rfl ?_
        show Steps p.tables e below (T83.setTop (mkF m 18 #[.val (.int p0_0), .val (.ref b59), .unset, .unset, .unset] [(.ref b59)])) _
        refine XS.iconst X83.here hx rfl (hb hby at_18) ?_
        show Steps p.tables e below (T83.setTop (mkF m 19 #[.val (.int p0_0), .val (.ref b59), .unset, .unset, .unset] [(.int (2 : Int32)), (.ref b59)])) _
        refine st92 _ ?_
        exact k)
      obtain ⟨cl94, Ar94, q94, S94, N94, H94, G94⟩ := id V84
      have hin94 : ¬ ((2 : Int32) < 0 ∨ cl94.slots.size ≤ ((2 : Int32)).toNatClampNeg) := inb_of S94 ⟨by decide, by decide⟩
      obtain ⟨T94, h94, X94, e94, W94, st94⟩ := stR X92 hx hZ e92 Ar94 (j := (2 : Int32)) hin94 rfl (Sto.ofV Ar94 q94 O59 (Ins.self f88)) (g := (mkF m 22 #[.val (.int p0_0), .val (.ref b59), .unset, .unset, .unset] [(.ref w0_GREATER), (.int (2 : Int32)), (.ref b59)])) rfl rfl (hb hby at_22)
      have V95 : Arv Z h94 b59 k59 (.object "com/example/tripleshard/tripleshard/sparql/Order") (3 : Int32) [(.ref w0_LESS), (.ref w0_EQUAL), (.ref w0_GREATER)] .null := Arv.set Ar94 q94 S94 N94 H94 G94 rfl W94 2 rfl (Nat.le_of_ble_eq_true rfl)
      have pre96 : ∀ t, Steps p.tables e below (T94.setTop (mkF m 23 #[.val (.int p0_0), .val (.ref b59), .unset, .unset, .unset] [])) t → Steps p.tables e below (s₁.setTop (entryFrame m #[(.int p0_0)] maxLocals)) t := fun t k => pre93 t (by
        show Steps p.tables e below (T92.setTop (mkF m 22 #[.val (.int p0_0), .val (.ref b59), .unset, .unset, .unset] [(.ref w0_GREATER), (.int (2 : Int32)), (.ref b59)])) _
        refine st94 _ ?_
        exact k)
      have f97 := f86.wr W94
      have f98 := f87.wr W94
      have f99 := f88.wr W94
      have z100 := Nat.le_trans z89 (Keep.of_wr W94).1
      have o101 := o90.wr W94 gz59
      have N102 := Fr.snoc X94 N91 gz59
      obtain ⟨_, _, ⟨T103, L103, k103, n103⟩, -, X103, ⟨Lc103, hQ103, l103, y103, z103⟩, st103⟩ := Jvm.LawKit.callS X94 hx (y := (⟨"java/lang/Math", "min", "(II)I"⟩ : MethodName)) hown (mvT hZ (hVV 10 _ rfl)) (mvT hZ (hVV 11 _ rfl)) (mvT hZ (hVV 12 _ rfl)) (mvT hZ (hVV 13 _ rfl)) (by decide) (backOf (W := 1) (rm1 l Z a0 hw [] (1 : Int32) p0_0 h94 n0 z100 ) hZ (hVV 13 _ rfl) (hVV 12 _ rfl) (by decide) (by decide)) (g := (mkF m 26 #[.val (.int p0_0), .val (.ref b59), .unset, .unset, .unset] [(.int p0_0), (.int (1 : Int32)), (.int (-1 : Int32))])) rfl (by rw [hml]; rfl) (argsL := [(.int (1 : Int32)), (.int p0_0)]) (rest := [(.int (-1 : Int32))]) (lenOf pd_0 rfl) rfl (by show 2 * 0 + _ ≤ _; exact Nat.le_of_eq rfl) (hb hby at_26) (fun _ _ => ⟨rfl, e94, (by decide : 1 + 0 ≤ _), (by decide : 3 + 0 ≤ _)⟩)
      dsimp only [Pt.U, Pt.locs, Pt.cells, Pt.slots] at X103 l103 y103 z103 st103 hQ103
      subst l103 y103 z103
      obtain ⟨rfl, N103q, e103⟩ := hQ103
      have N104 := Fr.app N102 N103q
      have pre105 : ∀ t, Steps p.tables e below (T103.setTop (mkF m 29 #[.val (.int p0_0), .val (.ref b59), .unset, .unset, .unset] [(.int (if p0_0 < (1 : Int32) then p0_0 else (1 : Int32))), (.int (-1 : Int32))])) t → Steps p.tables e below (s₁.setTop (entryFrame m #[(.int p0_0)] maxLocals)) t := fun t k => pre96 t (by
        show Steps p.tables e below (T94.setTop (mkF m 23 #[.val (.int p0_0), .val (.ref b59), .unset, .unset, .unset] [])) _
        refine XS.iconst X94.here hx rfl (hb hby at_23) ?_
        show Steps p.tables e below (T94.setTop (mkF m 24 #[.val (.int p0_0), .val (.ref b59), .unset, .unset, .unset] [(.int (-1 : Int32))])) _
        refine XS.iconst X94.here hx rfl (hb hby at_24) ?_
        show Steps p.tables e below (T94.setTop (mkF m 25 #[.val (.int p0_0), .val (.ref b59), .unset, .unset, .unset] [(.int (1 : Int32)), (.int (-1 : Int32))])) _
        refine XS.iloadN X94.here hx rfl (hb hby at_25) rfl ?_
        show Steps p.tables e below (T94.setTop (mkF m 26 #[.val (.int p0_0), .val (.ref b59), .unset, .unset, .unset] [(.int p0_0), (.int (1 : Int32)), (.int (-1 : Int32))])) _
        refine st103 _ ?_
        exact k)
      obtain ⟨_, _, ⟨T106, L106, k106, n106⟩, -, X106, ⟨Lc106, hQ106, l106, y106, z106⟩, st106⟩ := Jvm.LawKit.callS X103 hx (y := (⟨"java/lang/Math", "max", "(II)I"⟩ : MethodName)) hown (mvT hZ (hVV 14 _ rfl)) (mvT hZ (hVV 15 _ rfl)) (mvT hZ (hVV 12 _ rfl)) (mvT hZ (hVV 16 _ rfl)) (by decide) (backOf (W := 0) (rm2 l Z a0 hw [] (-1 : Int32) (if p0_0 < (1 : Int32) then p0_0 else (1 : Int32)) h94 n0 z100 ) hZ (hVV 16 _ rfl) (hVV 12 _ rfl) (by decide) (by decide)) (g := (mkF m 29 #[.val (.int p0_0), .val (.ref b59), .unset, .unset, .unset] [(.int (if p0_0 < (1 : Int32) then p0_0 else (1 : Int32))), (.int (-1 : Int32))])) rfl (by rw [hml]; rfl) (argsL := [(.int (-1 : Int32)), (.int (if p0_0 < (1 : Int32) then p0_0 else (1 : Int32)))]) (rest := []) (lenOf pd_0 rfl) rfl (by show 2 * 0 + _ ≤ _; exact Nat.le_of_eq rfl) (hb hby at_29) (fun _ _ => ⟨rfl, e103, (by decide : 1 + 0 ≤ _), (by decide : 3 + 0 ≤ _)⟩)
      dsimp only [Pt.U, Pt.locs, Pt.cells, Pt.slots] at X106 l106 y106 z106 st106 hQ106
      subst l106 y106 z106
      obtain ⟨rfl, N106q, e106⟩ := hQ106
      have N107 := Fr.app N104 N106q
      have pre108 : ∀ t, Steps p.tables e below (T106.setTop (mkF m 32 #[.val (.int p0_0), .val (.ref b59), .unset, .unset, .unset] [(.int (if (-1 : Int32) < (if p0_0 < (1 : Int32) then p0_0 else (1 : Int32)) then (if p0_0 < (1 : Int32) then p0_0 else (1 : Int32)) else (-1 : Int32)))])) t → Steps p.tables e below (s₁.setTop (entryFrame m #[(.int p0_0)] maxLocals)) t := fun t k => pre105 t (by
        show Steps p.tables e below (T103.setTop (mkF m 29 #[.val (.int p0_0), .val (.ref b59), .unset, .unset, .unset] [(.int (if p0_0 < (1 : Int32) then p0_0 else (1 : Int32))), (.int (-1 : Int32))])) _
        refine st106 _ ?_
        exact k)
      have pre109 : ∀ t, Steps p.tables e below (T106.setTop (mkF m 35 #[.val (.int p0_0), .val (.ref b59), .val (.int ((if (-1 : Int32) < (if p0_0 < (1 : Int32) then p0_0 else (1 : Int32)) then (if p0_0 < (1 : Int32) then p0_0 else (1 : Int32)) else (-1 : Int32)) + (1 : Int32))), .unset, .unset] [])) t → Steps p.tables e below (s₁.setTop (entryFrame m #[(.int p0_0)] maxLocals)) t := fun t k => pre108 t (by
        show Steps p.tables e below (T106.setTop (mkF m 32 #[.val (.int p0_0), .val (.ref b59), .unset, .unset, .unset] [(.int (if (-1 : Int32) < (if p0_0 < (1 : Int32) then p0_0 else (1 : Int32)) then (if p0_0 < (1 : Int32) then p0_0 else (1 : Int32)) else (-1 : Int32)))])) _
        refine XS.iconst X106.here hx rfl (hb hby at_32) ?_
        show Steps p.tables e below (T106.setTop (mkF m 33 #[.val (.int p0_0), .val (.ref b59), .unset, .unset, .unset] [(.int (1 : Int32)), (.int (if (-1 : Int32) < (if p0_0 < (1 : Int32) then p0_0 else (1 : Int32)) then (if p0_0 < (1 : Int32) then p0_0 else (1 : Int32)) else (-1 : Int32)))])) _
        refine XS.iadd X106.here hx rfl (hb hby at_33) rfl ?_
        show Steps p.tables e below (T106.setTop (mkF m 34 #[.val (.int p0_0), .val (.ref b59), .unset, .unset, .unset] [(.int ((if (-1 : Int32) < (if p0_0 < (1 : Int32) then p0_0 else (1 : Int32)) then (if p0_0 < (1 : Int32) then p0_0 else (1 : Int32)) else (-1 : Int32)) + (1 : Int32)))])) _
        refine XS.istoreN X106.here hx rfl (hb hby at_34) rfl (l' := #[.val (.int p0_0), .val (.ref b59), .val (.int ((if (-1 : Int32) < (if p0_0 < (1 : Int32) then p0_0 else (1 : Int32)) then (if p0_0 < (1 : Int32) then p0_0 else (1 : Int32)) else (-1 : Int32)) + (1 : Int32))), .unset, .unset]) rfl ?_
        exact k)
      have hl110 : ((if (-1 : Int32) < (if p0_0 < (1 : Int32) then p0_0 else (1 : Int32)) then (if p0_0 < (1 : Int32) then p0_0 else (1 : Int32)) else (-1 : Int32)) + (1 : Int32)) = (2 : Int32) := by
        exact own_pos _ hpos
      have pre111 : ∀ t, Steps p.tables e below (T106.setTop (mkF m 35 #[.val (.int p0_0), .val (.ref b59), .val (.int (2 : Int32)), .unset, .unset] [])) t → Steps p.tables e below (s₁.setTop (entryFrame m #[(.int p0_0)] maxLocals)) t := fun t k => pre109 t (castTop (by rw [hl110]) k)
      obtain ⟨cl112, Ar112, q112, S112, N112, H112, G112⟩ := id V95
      have hin112 : ¬ ((2 : Int32) < 0 ∨ cl112.slots.size ≤ ((2 : Int32)).toNatClampNeg) := inb_of S112 ⟨by decide, by decide⟩
      have hat112 : cl112.slots[((2 : Int32)).toNatClampNeg]? = some (.ref w0_GREATER) := Has.at H112 hin112 rfl
      have hq114 : ¬ (p0_0 < (0 : Int32)) := by
        first | exact hneg | exact hpos | (intro q; rw [Int32.lt_iff_toInt_lt] at q hpos; omega)
      have hq115 : (0 : Int32) < p0_0 := by
        first | exact hneg | exact hpos | (intro q; rw [Int32.lt_iff_toInt_lt] at q hpos; omega)
      obtain ⟨_, _, ⟨T113, L113, k113, n113⟩, -, X113, ⟨Lc113, hQ113, l113, y113, z113⟩, st113⟩ := Jvm.LawKit.callS X106 hx (y := (⟨"com/example/tripleshard/tripleshard/sparql/Order", "of", "(I)Lcom/example/tripleshard/tripleshard/sparql/Order;"⟩ : MethodName)) hown (mvT hZ (hVV 17 _ rfl)) (mvT hZ (hVV 18 _ rfl)) (mvT hZ (hVV 3 _ rfl)) (mvT hZ (hVV 19 _ rfl)) (by decide) (backOf (W := 0) (rm3_p l Z a0 hw [] p0_0 w0_GREATER h94 n0 z100 o101 hq114 hq115 S_GREATER) hZ (hVV 19 _ rfl) (hVV 3 _ rfl) (by decide) (by decide)) (g := (mkF m 40 #[.val (.int p0_0), .val (.ref b59), .val (.int (2 : Int32)), .val (.ref w0_GREATER), .unset] [(.int p0_0)])) rfl (by rw [hml]; rfl) (argsL := [(.int p0_0)]) (rest := []) (lenOf pd_1 rfl) rfl (by show 2 * 0 + _ ≤ _; exact Nat.le_of_eq rfl) (hb hby at_40) (fun _ _ => ⟨rfl, e106, (by decide : 1 + 0 ≤ _), (by decide : 3 + 0 ≤ _)⟩)
      dsimp only [Pt.U, Pt.locs, Pt.cells, Pt.slots] at X113 l113 y113 z113 st113 hQ113
      subst l113 y113 z113
      obtain ⟨rfl, N113q, e113⟩ := hQ113
      have N116 := Fr.app N107 N113q
      have pre117 : ∀ t, Steps p.tables e below (T113.setTop (mkF m 43 #[.val (.int p0_0), .val (.ref b59), .val (.int (2 : Int32)), .val (.ref w0_GREATER), .unset] [(.ref w0_GREATER)])) t → Steps p.tables e below (s₁.setTop (entryFrame m #[(.int p0_0)] maxLocals)) t := fun t k => pre111 t (by
        show Steps p.tables e below (T106.setTop (mkF m 35 #[.val (.int p0_0), .val (.ref b59), .val (.int (2 : Int32)), .unset, .unset] [])) _
        refine XS.aloadN X106.here hx rfl (hb hby at_35) rfl rfl ?_
        show Steps p.tables e below (T106.setTop (mkF m 36 #[.val (.int p0_0), .val (.ref b59), .val (.int (2 : Int32)), .unset, .unset] [(.ref b59)])) _
        refine XS.iloadN X106.here hx rfl (hb hby at_36) rfl ?_
        show Steps p.tables e below (T106.setTop (mkF m 37 #[.val (.int p0_0), .val (.ref b59), .val (.int (2 : Int32)), .unset, .unset] [(.int (2 : Int32)), (.ref b59)])) _
        refine X106.aaload hx (j := (2 : Int32)) (v := (.ref w0_GREATER)) (by rw [e106]; exact Ar112.1) (State.isArrayOf_alike hZ.alike Ar112.2.1) rfl Ar112.2.2 hin112 hat112 (g := (mkF m 37 #[.val (.int p0_0), .val (.ref b59), .val (.int (2 : Int32)), .unset, .unset] [(.int (2 : Int32)), (.ref b59)])) rfl rfl (hb hby at_37) _ ?_
        show Steps p.tables e below (T106.setTop (mkF m 38 #[.val (.int p0_0), .val (.ref b59), .val (.int (2 : Int32)), .unset, .unset] [(.ref w0_GREATER)])) _
        refine XS.astoreN X106.here hx rfl (hb hby at_38) rfl rfl (l' := #[.val (.int p0_0), .val (.ref b59), .val (.int (2 : Int32)), .val (.ref w0_GREATER), .unset]) rfl ?_
        show Steps p.tables e below (T106.setTop (mkF m 39 #[.val (.int p0_0), .val (.ref b59), .val (.int (2 : Int32)), .val (.ref w0_GREATER), .unset] [])) _
        refine XS.iloadN X106.here hx rfl (hb hby at_39) rfl ?_
        show Steps p.tables e below (T106.setTop (mkF m 40 #[.val (.int p0_0), .val (.ref b59), .val (.int (2 : Int32)), .val (.ref w0_GREATER), .unset] [(.int p0_0)])) _
        refine st113 _ ?_
        exact k)
      obtain ⟨fs, hr, hrun, hended, hW, hsame⟩ := X113.leave (v := some (.int (1 : Int32))) (fun h => by rw [Bd.returns] at h; cases h)
      refine ⟨_, _, pre117 _ ?_, hrun, hended, _, _, rfl, ?_, ⟨_, rfl⟩, hW, hsame.mono (by decide) (by decide)⟩
      · show Steps p.tables e below (T113.setTop (mkF m 43 #[.val (.int p0_0), .val (.ref b59), .val (.int (2 : Int32)), .val (.ref w0_GREATER), .unset] [(.ref w0_GREATER)])) _
        refine XS.astore X113.here hx rfl (hb hby at_43) rfl rfl (l' := #[.val (.int p0_0), .val (.ref b59), .val (.int (2 : Int32)), .val (.ref w0_GREATER), .val (.ref w0_GREATER)]) rfl ?_
        show Steps p.tables e below (T113.setTop (mkF m 45 #[.val (.int p0_0), .val (.ref b59), .val (.int (2 : Int32)), .val (.ref w0_GREATER), .val (.ref w0_GREATER)] [])) _
        refine XS.aload X113.here hx rfl (hb hby at_45) rfl rfl ?_
        show Steps p.tables e below (T113.setTop (mkF m 47 #[.val (.int p0_0), .val (.ref b59), .val (.int (2 : Int32)), .val (.ref w0_GREATER), .val (.ref w0_GREATER)] [(.ref w0_GREATER)])) _
        refine XS.aloadN X113.here hx rfl (hb hby at_47) rfl rfl ?_
        show Steps p.tables e below (T113.setTop (mkF m 48 #[.val (.int p0_0), .val (.ref b59), .val (.int (2 : Int32)), .val (.ref w0_GREATER), .val (.ref w0_GREATER)] [(.ref w0_GREATER), (.ref w0_GREATER)])) _
        refine Jvm.RoadKit.acmp (g := (mkF m 48 #[.val (.int p0_0), .val (.ref b59), .val (.int (2 : Int32)), .val (.ref w0_GREATER), .val (.ref w0_GREATER)] [(.ref w0_GREATER), (.ref w0_GREATER)])) X113 hx rfl rfl rfl (pc0 := 48) (pc' := 51) (same := true) rfl (hb hby at_48) rfl (decide_eq_true rfl) (by decide) (by decide) ?_
        show Steps p.tables e below (T113.setTop (mkF m 51 #[.val (.int p0_0), .val (.ref b59), .val (.int (2 : Int32)), .val (.ref w0_GREATER), .val (.ref w0_GREATER)] [])) _
        refine XS.iconst X113.here hx rfl (hb hby at_51) ?_
        show Steps p.tables e below (T113.setTop (mkF m 52 #[.val (.int p0_0), .val (.ref b59), .val (.int (2 : Int32)), .val (.ref w0_GREATER), .val (.ref w0_GREATER)] [(.int (1 : Int32))])) _
        refine XS.goto X113.here hx rfl (pc0 := 52) (pc' := 56) rfl (hb hby at_52) (by decide) (by decide) ?_
        show Steps p.tables e below (T113.setTop (mkF m 56 #[.val (.int p0_0), .val (.ref b59), .val (.int (2 : Int32)), .val (.ref w0_GREATER), .val (.ref w0_GREATER)] [(.int (1 : Int32))])) _
        exact retN X113 hx (t := .boolean) Bd.returns (by simp) (hb hby at_56) hr
      · show Q0 Z p0_0 w0_LESS w0_EQUAL w0_GREATER h0 n0 _ T113.heap _
        rw [e113]
        exact ⟨rfl, N116⟩
    · obtain ⟨T118, h118, k118, X118, e118, E118, A118, O118, st118⟩ := newR X0 hx hZ hown (hVV 0 _ rfl) (hVV 1 _ rfl) e0 (g := (mkF m 1 #[.val (.int p0_0), .unset, .unset, .unset, .unset] [(.int (3 : Int32))])) rfl (hb hby at_1) rfl (by decide) (cap := 3) (by decide) (by decide) (by decide) (by decide)
      obtain ⟨b118, g118⟩ : ∃ z, z = h0.size := ⟨_, rfl⟩
      rw [← g118] at A118 st118
      have gz118 : n0 ≤ b118 := Nat.le_trans Z0 (Nat.le_of_eq g118.symm)
      have ne119 : w0_LESS ≠ b118 := Nat.ne_of_lt (Nat.lt_of_lt_of_le EE_LESS.lt (Nat.le_of_eq g118.symm))
      have ne120 : w0_EQUAL ≠ b118 := Nat.ne_of_lt (Nat.lt_of_lt_of_le EE_EQUAL.lt (Nat.le_of_eq g118.symm))
      have ne121 : w0_GREATER ≠ b118 := Nat.ne_of_lt (Nat.lt_of_lt_of_le EE_GREATER.lt (Nat.le_of_eq g118.symm))
      have pre122 : ∀ t, Steps p.tables e below (T118.setTop (mkF m 4 #[.val (.int p0_0), .unset, .unset, .unset, .unset] [(.ref b118)])) t → Steps p.tables e below (s₁.setTop (entryFrame m #[(.int p0_0)] maxLocals)) t := fun t k => pre0 t (by
        show Steps p.tables e below (s₁.setTop (mkF m 0 #[.val (.int p0_0), .unset, .unset, .unset, .unset] [])) _
        refine XS.iconst X0.here hx rfl (hb hby at_0) ?_
        show Steps p.tables e below (s₁.setTop (mkF m 1 #[.val (.int p0_0), .unset, .unset, .unset, .unset] [(.int (3 : Int32))])) _
        refine st118 _ ?_
        exact k)
      have f123 := EE_LESS.ext E118
      have f124 := EE_EQUAL.ext E118
      have f125 := EE_GREATER.ext E118
      have z126 := Nat.le_trans Z0 E118.1
      have o127 := O0.ext E118
      have V128 : Arv Z h118 b118 k118 (.object "com/example/tripleshard/tripleshard/sparql/Order") (3 : Int32) [.null, .null, .null] .null := (Arv.new A118 (by decide)).pad (pad_rep [] .null 3)
      obtain ⟨T129, X129, e129, st129⟩ := getS2 X118 hx hZ hown (host := "") (Or.inl (hVV 2 _ rfl)) Via.refl e118 (S_LESS.ext o127.2) (g := (mkF m 7 #[.val (.int p0_0), .val (.ref b118), .unset, .unset, .unset] [(.int (0 : Int32)), (.ref b118)])) rfl (hb hby at_7)
      have pre130 : ∀ t, Steps p.tables e below (T129.setTop (mkF m 10 #[.val (.int p0_0), .val (.ref b118), .unset, .unset, .unset] [(.ref w0_LESS), (.int (0 : Int32)), (.ref b118)])) t → Steps p.tables e below (s₁.setTop (entryFrame m #[(.int p0_0)] maxLocals)) t := fun t k => pre122 t (by
        show Steps p.tables e below (T118.setTop (mkF m 4 #[.val (.int p0_0), .unset, .unset, .unset, .unset] [(.ref b118)])) _
        refine XS.astoreN X118.here hx rfl (hb hby at_4) rfl rfl (l' := #[.val (.int p0_0), .val (.ref b118), .unset, .unset, .unset]) rfl ?_
        show Steps p.tables e below (T118.setTop (mkF m 5 #[.val (.int p0_0), .val (.ref b118), .unset, .unset, .unset] [])) _
        refine XS.aloadN X118.here hx rfl (hb hby at_5) rfl rfl ?_
        show Steps p.tables e below (T118.setTop (mkF m 6 #[.val (.int p0_0), .val (.ref b118), .unset, .unset, .unset] [(.ref b118)])) _
        refine XS.iconst X118.here hx rfl (hb hby at_6) ?_
        show Steps p.tables e below (T118.setTop (mkF m 7 #[.val (.int p0_0), .val (.ref b118), .unset, .unset, .unset] [(.int (0 : Int32)), (.ref b118)])) _
        refine st129 _ ?_
        exact k)
      obtain ⟨cl131, Ar131, q131, S131, N131, H131, G131⟩ := id V128
      have hin131 : ¬ ((0 : Int32) < 0 ∨ cl131.slots.size ≤ ((0 : Int32)).toNatClampNeg) := inb_of S131 ⟨by decide, by decide⟩
      obtain ⟨T131, h131, X131, e131, W131, st131⟩ := stR X129 hx hZ e129 Ar131 (j := (0 : Int32)) hin131 rfl (Sto.ofV Ar131 q131 O118 (Ins.self f123)) (g := (mkF m 10 #[.val (.int p0_0), .val (.ref b118), .unset, .unset, .unset] [(.ref w0_LESS), (.int (0 : Int32)), (.ref b118)])) rfl rfl (hb hby at_10)
      have V132 : Arv Z h131 b118 k118 (.object "com/example/tripleshard/tripleshard/sparql/Order") (3 : Int32) [(.ref w0_LESS), .null, .null] .null := Arv.set Ar131 q131 S131 N131 H131 G131 rfl W131 0 rfl (Nat.le_of_ble_eq_true rfl)
      have pre133 : ∀ t, Steps p.tables e below (T131.setTop (mkF m 11 #[.val (.int p0_0), .val (.ref b118), .unset, .unset, .unset] [])) t → Steps p.tables e below (s₁.setTop (entryFrame m #[(.int p0_0)] maxLocals)) t := fun t k => pre130 t (by
        show Steps p.tables e below (T129.setTop (mkF m 10 #[.val (.int p0_0), .val (.ref b118), .unset, .unset, .unset] [(.ref w0_LESS), (.int (0 : Int32)), (.ref b118)])) _
        refine st131 _ ?_
        exact k)
      have f134 := f123.wr W131
      have f135 := f124.wr W131
      have f136 := f125.wr W131
      have z137 := Nat.le_trans z126 (Keep.of_wr W131).1
      have o138 := o127.wr W131 gz118
      have N139 := Fr.snoc X131 N0 gz118
      obtain ⟨T140, X140, e140, st140⟩ := getS2 X131 hx hZ hown (host := "") (Or.inl (hVV 6 _ rfl)) Via.refl e131 (S_EQUAL.ext o138.2) (g := (mkF m 13 #[.val (.int p0_0), .val (.ref b118), .unset, .unset, .unset] [(.int (1 : Int32)), (.ref b118)])) rfl (hb hby at_13)
      have pre141 : ∀ t, Steps p.tables e below (T140.setTop (mkF m 16 #[.val (.int p0_0), .val (.ref b118), .unset, .unset, .unset] [(.ref w0_EQUAL), (.int (1 : Int32)), (.ref b118)])) t → Steps p.tables e below (s₁.setTop (entryFrame m #[(.int p0_0)] maxLocals)) t := fun t k => pre133 t (by
        show Steps p.tables e below (T131.setTop (mkF m 11 #[.val (.int p0_0), .val (.ref b118), .unset, .unset, .unset] [])) _
        refine XS.aloadN X131.here hx rfl (hb hby at_11) rfl rfl ?_
        show Steps p.tables e below (T131.setTop (mkF m 12 #[.val (.int p0_0), .val (.ref b118), .unset, .unset, .unset] [(.ref b118)])) _
        refine XS.iconst X131.here hx rfl (hb hby at_12) ?_
        show Steps p.tables e below (T131.setTop (mkF m 13 #[.val (.int p0_0), .val (.ref b118), .unset, .unset, .unset] [(.int (1 : Int32)), (.ref b118)])) _
        refine st140 _ ?_
        exact k)
      obtain ⟨cl142, Ar142, q142, S142, N142, H142, G142⟩ := id V132
      have hin142 : ¬ ((1 : Int32) < 0 ∨ cl142.slots.size ≤ ((1 : Int32)).toNatClampNeg) := inb_of S142 ⟨by decide, by decide⟩
      obtain ⟨T142, h142, X142, e142, W142, st142⟩ := stR X140 hx hZ e140 Ar142 (j := (1 : Int32)) hin142 rfl (Sto.ofV Ar142 q142 O118 (Ins.self f135)) (g := (mkF m 16 #[.val (.int p0_0), .val (.ref b118), .unset, .unset, .unset] [(.ref w0_EQUAL), (.int (1 : Int32)), (.ref b118)])) rfl rfl (hb hby at_16)
      have V143 : Arv Z h142 b118 k118 (.object "com/example/tripleshard/tripleshard/sparql/Order") (3 : Int32) [(.ref w0_LESS), (.ref w0_EQUAL), .null] .null := Arv.set Ar142 q142 S142 N142 H142 G142 rfl W142 1 rfl (Nat.le_of_ble_eq_true rfl)
      have pre144 : ∀ t, Steps p.tables e below (T142.setTop (mkF m 17 #[.val (.int p0_0), .val (.ref b118), .unset, .unset, .unset] [])) t → Steps p.tables e below (s₁.setTop (entryFrame m #[(.int p0_0)] maxLocals)) t := fun t k => pre141 t (by
        show Steps p.tables e below (T140.setTop (mkF m 16 #[.val (.int p0_0), .val (.ref b118), .unset, .unset, .unset] [(.ref w0_EQUAL), (.int (1 : Int32)), (.ref b118)])) _
        refine st142 _ ?_
        exact k)
      have f145 := f134.wr W142
      have f146 := f135.wr W142
      have f147 := f136.wr W142
      have z148 := Nat.le_trans z137 (Keep.of_wr W142).1
      have o149 := o138.wr W142 gz118
      have N150 := Fr.snoc X142 N139 gz118
      obtain ⟨T151, X151, e151, st151⟩ := getS2 X142 hx hZ hown (host := "") (Or.inl (hVV 8 _ rfl)) Via.refl e142 (S_GREATER.ext o149.2) (g := (mkF m 19 #[.val (.int p0_0), .val (.ref b118), .unset, .unset, .unset] [(.int (2 : Int32)), (.ref b118)])) rfl (hb hby at_19)
      have pre152 : ∀ t, Steps p.tables e below (T151.setTop (mkF m 22 #[.val (.int p0_0), .val (.ref b118), .unset, .unset, .unset] [(.ref w0_GREATER), (.int (2 : Int32)), (.ref b118)])) t → Steps p.tables e below (s₁.setTop (entryFrame m #[(.int p0_0)] maxLocals)) t := fun t k => pre144 t (by
        show Steps p.tables e below (T142.setTop (mkF m 17 #[.val (.int p0_0), .val (.ref b118), .unset, .unset, .unset] [])) _
        refine XS.aloadN X142.here hx rfl (hb hby at_17) rfl rfl ?_
        show Steps p.tables e below (T142.setTop (mkF m 18 #[.val (.int p0_0), .val (.ref b118), .unset, .unset, .unset] [(.ref b118)])) _
        refine XS.iconst X142.here hx rfl (hb hby at_18) ?_
        show Steps p.tables e below (T142.setTop (mkF m 19 #[.val (.int p0_0), .val (.ref b118), .unset, .unset, .unset] [(.int (2 : Int32)), (.ref b118)])) _
        refine st151 _ ?_
        exact k)
      obtain ⟨cl153, Ar153, q153, S153, N153, H153, G153⟩ := id V143
      have hin153 : ¬ ((2 : Int32) < 0 ∨ cl153.slots.size ≤ ((2 : Int32)).toNatClampNeg) := inb_of S153 ⟨by decide, by decide⟩
      obtain ⟨T153, h153, X153, e153, W153, st153⟩ := stR X151 hx hZ e151 Ar153 (j := (2 : Int32)) hin153 rfl (Sto.ofV Ar153 q153 O118 (Ins.self f147)) (g := (mkF m 22 #[.val (.int p0_0), .val (.ref b118), .unset, .unset, .unset] [(.ref w0_GREATER), (.int (2 : Int32)), (.ref b118)])) rfl rfl (hb hby at_22)
      have V154 : Arv Z h153 b118 k118 (.object "com/example/tripleshard/tripleshard/sparql/Order") (3 : Int32) [(.ref w0_LESS), (.ref w0_EQUAL), (.ref w0_GREATER)] .null := Arv.set Ar153 q153 S153 N153 H153 G153 rfl W153 2 rfl (Nat.le_of_ble_eq_true rfl)
      have pre155 : ∀ t, Steps p.tables e below (T153.setTop (mkF m 23 #[.val (.int p0_0), .val (.ref b118), .unset, .unset, .unset] [])) t → Steps p.tables e below (s₁.setTop (entryFrame m #[(.int p0_0)] maxLocals)) t := fun t k => pre152 t (by
        show Steps p.tables e below (T151.setTop (mkF m 22 #[.val (.int p0_0), .val (.ref b118), .unset, .unset, .unset] [(.ref w0_GREATER), (.int (2 : Int32)), (.ref b118)])) _
        refine st153 _ ?_
        exact k)
      have f156 := f145.wr W153
      have f157 := f146.wr W153
      have f158 := f147.wr W153
      have z159 := Nat.le_trans z148 (Keep.of_wr W153).1
      have o160 := o149.wr W153 gz118
      have N161 := Fr.snoc X153 N150 gz118
      obtain ⟨_, _, ⟨T162, L162, k162, n162⟩, -, X162, ⟨Lc162, hQ162, l162, y162, z162⟩, st162⟩ := Jvm.LawKit.callS X153 hx (y := (⟨"java/lang/Math", "min", "(II)I"⟩ : MethodName)) hown (mvT hZ (hVV 10 _ rfl)) (mvT hZ (hVV 11 _ rfl)) (mvT hZ (hVV 12 _ rfl)) (mvT hZ (hVV 13 _ rfl)) (by decide) (backOf (W := 1) (rm1 l Z a0 hw [] (1 : Int32) p0_0 h153 n0 z159 ) hZ (hVV 13 _ rfl) (hVV 12 _ rfl) (by decide) (by decide)) (g := (mkF m 26 #[.val (.int p0_0), .val (.ref b118), .unset, .unset, .unset] [(.int p0_0), (.int (1 : Int32)), (.int (-1 : Int32))])) rfl (by rw [hml]; rfl) (argsL := [(.int (1 : Int32)), (.int p0_0)]) (rest := [(.int (-1 : Int32))]) (lenOf pd_0 rfl) rfl (by show 2 * 0 + _ ≤ _; exact Nat.le_of_eq rfl) (hb hby at_26) (fun _ _ => ⟨rfl, e153, (by decide : 1 + 0 ≤ _), (by decide : 3 + 0 ≤ _)⟩)
      dsimp only [Pt.U, Pt.locs, Pt.cells, Pt.slots] at X162 l162 y162 z162 st162 hQ162
      subst l162 y162 z162
      obtain ⟨rfl, N162q, e162⟩ := hQ162
      have N163 := Fr.app N161 N162q
      have pre164 : ∀ t, Steps p.tables e below (T162.setTop (mkF m 29 #[.val (.int p0_0), .val (.ref b118), .unset, .unset, .unset] [(.int (if p0_0 < (1 : Int32) then p0_0 else (1 : Int32))), (.int (-1 : Int32))])) t → Steps p.tables e below (s₁.setTop (entryFrame m #[(.int p0_0)] maxLocals)) t := fun t k => pre155 t (by
        show Steps p.tables e below (T153.setTop (mkF m 23 #[.val (.int p0_0), .val (.ref b118), .unset, .unset, .unset] [])) _
        refine XS.iconst X153.here hx rfl (hb hby at_23) ?_
        show Steps p.tables e below (T153.setTop (mkF m 24 #[.val (.int p0_0), .val (.ref b118), .unset, .unset, .unset] [(.int (-1 : Int32))])) _
        refine XS.iconst X153.here hx rfl (hb hby at_24) ?_
        show Steps p.tables e below (T153.setTop (mkF m 25 #[.val (.int p0_0), .val (.ref b118), .unset, .unset, .unset] [(.int (1 : Int32)), (.int (-1 : Int32))])) _
        refine XS.iloadN X153.here hx rfl (hb hby at_25) rfl ?_
        show Steps p.tables e below (T153.setTop (mkF m 26 #[.val (.int p0_0), .val (.ref b118), .unset, .unset, .unset] [(.int p0_0), (.int (1 : Int32)), (.int (-1 : Int32))])) _
        refine st162 _ ?_
        exact k)
      obtain ⟨_, _, ⟨T165, L165, k165, n165⟩, -, X165, ⟨Lc165, hQ165, l165, y165, z165⟩, st165⟩ := Jvm.LawKit.callS X162 hx (y := (⟨"java/lang/Math", "max", "(II)I"⟩ : MethodName)) hown (mvT hZ (hVV 14 _ rfl)) (mvT hZ (hVV 15 _ rfl)) (mvT hZ (hVV 12 _ rfl)) (mvT hZ (hVV 16 _ rfl)) (by decide) (backOf (W := 0) (rm2 l Z a0 hw [] (-1 : Int32) (if p0_0 < (1 : Int32) then p0_0 else (1 : Int32)) h153 n0 z159 ) hZ (hVV 16 _ rfl) (hVV 12 _ rfl) (by decide) (by decide)) (g := (mkF m 29 #[.val (.int p0_0), .val (.ref b118), .unset, .unset, .unset] [(.int (if p0_0 < (1 : Int32) then p0_0 else (1 : Int32))), (.int (-1 : Int32))])) rfl (by rw [hml]; rfl) (argsL := [(.int (-1 : Int32)), (.int (if p0_0 < (1 : Int32) then p0_0 else (1 : Int32)))]) (rest := []) (lenOf pd_0 rfl) rfl (by show 2 * 0 + _ ≤ _; exact Nat.le_of_eq rfl) (hb hby at_29) (fun _ _ => ⟨rfl, e162, (by decide : 1 + 0 ≤ _), (by decide : 3 + 0 ≤ _)⟩)
      dsimp only [Pt.U, Pt.locs, Pt.cells, Pt.slots] at X165 l165 y165 z165 st165 hQ165
      subst l165 y165 z165
      obtain ⟨rfl, N165q, e165⟩ := hQ165
      have N166 := Fr.app N163 N165q
      have pre167 : ∀ t, Steps p.tables e below (T165.setTop (mkF m 32 #[.val (.int p0_0), .val (.ref b118), .unset, .unset, .unset] [(.int (if (-1 : Int32) < (if p0_0 < (1 : Int32) then p0_0 else (1 : Int32)) then (if p0_0 < (1 : Int32) then p0_0 else (1 : Int32)) else (-1 : Int32)))])) t → Steps p.tables e below (s₁.setTop (entryFrame m #[(.int p0_0)] maxLocals)) t := fun t k => pre164 t (by
        show Steps p.tables e below (T162.setTop (mkF m 29 #[.val (.int p0_0), .val (.ref b118), .unset, .unset, .unset] [(.int (if p0_0 < (1 : Int32) then p0_0 else (1 : Int32))), (.int (-1 : Int32))])) _
        refine st165 _ ?_
        exact k)
      have pre168 : ∀ t, Steps p.tables e below (T165.setTop (mkF m 35 #[.val (.int p0_0), .val (.ref b118), .val (.int ((if (-1 : Int32) < (if p0_0 < (1 : Int32) then p0_0 else (1 : Int32)) then (if p0_0 < (1 : Int32) then p0_0 else (1 : Int32)) else (-1 : Int32)) + (1 : Int32))), .unset, .unset] [])) t → Steps p.tables e below (s₁.setTop (entryFrame m #[(.int p0_0)] maxLocals)) t := fun t k => pre167 t (by
        show Steps p.tables e below (T165.setTop (mkF m 32 #[.val (.int p0_0), .val (.ref b118), .unset, .unset, .unset] [(.int (if (-1 : Int32) < (if p0_0 < (1 : Int32) then p0_0 else (1 : Int32)) then (if p0_0 < (1 : Int32) then p0_0 else (1 : Int32)) else (-1 : Int32)))])) _
        refine XS.iconst X165.here hx rfl (hb hby at_32) ?_
        show Steps p.tables e below (T165.setTop (mkF m 33 #[.val (.int p0_0), .val (.ref b118), .unset, .unset, .unset] [(.int (1 : Int32)), (.int (if (-1 : Int32) < (if p0_0 < (1 : Int32) then p0_0 else (1 : Int32)) then (if p0_0 < (1 : Int32) then p0_0 else (1 : Int32)) else (-1 : Int32)))])) _
        refine XS.iadd X165.here hx rfl (hb hby at_33) rfl ?_
        show Steps p.tables e below (T165.setTop (mkF m 34 #[.val (.int p0_0), .val (.ref b118), .unset, .unset, .unset] [(.int ((if (-1 : Int32) < (if p0_0 < (1 : Int32) then p0_0 else (1 : Int32)) then (if p0_0 < (1 : Int32) then p0_0 else (1 : Int32)) else (-1 : Int32)) + (1 : Int32)))])) _
        refine XS.istoreN X165.here hx rfl (hb hby at_34) rfl (l' := #[.val (.int p0_0), .val (.ref b118), .val (.int ((if (-1 : Int32) < (if p0_0 < (1 : Int32) then p0_0 else (1 : Int32)) then (if p0_0 < (1 : Int32) then p0_0 else (1 : Int32)) else (-1 : Int32)) + (1 : Int32))), .unset, .unset]) rfl ?_
        exact k)
      have hl169 : ((if (-1 : Int32) < (if p0_0 < (1 : Int32) then p0_0 else (1 : Int32)) then (if p0_0 < (1 : Int32) then p0_0 else (1 : Int32)) else (-1 : Int32)) + (1 : Int32)) = (1 : Int32) := by
        exact own_zer _ hneg hpos
      have pre170 : ∀ t, Steps p.tables e below (T165.setTop (mkF m 35 #[.val (.int p0_0), .val (.ref b118), .val (.int (1 : Int32)), .unset, .unset] [])) t → Steps p.tables e below (s₁.setTop (entryFrame m #[(.int p0_0)] maxLocals)) t := fun t k => pre168 t (castTop (by rw [hl169]) k)
      obtain ⟨cl171, Ar171, q171, S171, N171, H171, G171⟩ := id V154
      have hin171 : ¬ ((1 : Int32) < 0 ∨ cl171.slots.size ≤ ((1 : Int32)).toNatClampNeg) := inb_of S171 ⟨by decide, by decide⟩
      have hat171 : cl171.slots[((1 : Int32)).toNatClampNeg]? = some (.ref w0_EQUAL) := Has.at H171 hin171 rfl
      have hq173 : ¬ (p0_0 < (0 : Int32)) := by
        first | exact hneg | exact hpos | (intro q; rw [Int32.lt_iff_toInt_lt] at q hpos; omega)
      have hq174 : ¬ ((0 : Int32) < p0_0) := by
        first | exact hneg | exact hpos | (intro q; rw [Int32.lt_iff_toInt_lt] at q hpos; omega)
      obtain ⟨_, _, ⟨T172, L172, k172, n172⟩, -, X172, ⟨Lc172, hQ172, l172, y172, z172⟩, st172⟩ := Jvm.LawKit.callS X165 hx (y := (⟨"com/example/tripleshard/tripleshard/sparql/Order", "of", "(I)Lcom/example/tripleshard/tripleshard/sparql/Order;"⟩ : MethodName)) hown (mvT hZ (hVV 17 _ rfl)) (mvT hZ (hVV 18 _ rfl)) (mvT hZ (hVV 3 _ rfl)) (mvT hZ (hVV 19 _ rfl)) (by decide) (backOf (W := 0) (rm3_z l Z a0 hw [] p0_0 w0_EQUAL h153 n0 z159 o160 hq173 hq174 S_EQUAL) hZ (hVV 19 _ rfl) (hVV 3 _ rfl) (by decide) (by decide)) (g := (mkF m 40 #[.val (.int p0_0), .val (.ref b118), .val (.int (1 : Int32)), .val (.ref w0_EQUAL), .unset] [(.int p0_0)])) rfl (by rw [hml]; rfl) (argsL := [(.int p0_0)]) (rest := []) (lenOf pd_1 rfl) rfl (by show 2 * 0 + _ ≤ _; exact Nat.le_of_eq rfl) (hb hby at_40) (fun _ _ => ⟨rfl, e165, (by decide : 1 + 0 ≤ _), (by decide : 3 + 0 ≤ _)⟩)
      dsimp only [Pt.U, Pt.locs, Pt.cells, Pt.slots] at X172 l172 y172 z172 st172 hQ172
      subst l172 y172 z172
      obtain ⟨rfl, N172q, e172⟩ := hQ172
      have N175 := Fr.app N166 N172q
      have pre176 : ∀ t, Steps p.tables e below (T172.setTop (mkF m 43 #[.val (.int p0_0), .val (.ref b118), .val (.int (1 : Int32)), .val (.ref w0_EQUAL), .unset] [(.ref w0_EQUAL)])) t → Steps p.tables e below (s₁.setTop (entryFrame m #[(.int p0_0)] maxLocals)) t := fun t k => pre170 t (by
        show Steps p.tables e below (T165.setTop (mkF m 35 #[.val (.int p0_0), .val (.ref b118), .val (.int (1 : Int32)), .unset, .unset] [])) _
        refine XS.aloadN X165.here hx rfl (hb hby at_35) rfl rfl ?_
        show Steps p.tables e below (T165.setTop (mkF m 36 #[.val (.int p0_0), .val (.ref b118), .val (.int (1 : Int32)), .unset, .unset] [(.ref b118)])) _
        refine XS.iloadN X165.here hx rfl (hb hby at_36) rfl ?_
        show Steps p.tables e below (T165.setTop (mkF m 37 #[.val (.int p0_0), .val (.ref b118), .val (.int (1 : Int32)), .unset, .unset] [(.int (1 : Int32)), (.ref b118)])) _
        refine X165.aaload hx (j := (1 : Int32)) (v := (.ref w0_EQUAL)) (by rw [e165]; exact Ar171.1) (State.isArrayOf_alike hZ.alike Ar171.2.1) rfl Ar171.2.2 hin171 hat171 (g := (mkF m 37 #[.val (.int p0_0), .val (.ref b118), .val (.int (1 : Int32)), .unset, .unset] [(.int (1 : Int32)), (.ref b118)])) rfl rfl (hb hby at_37) _ ?_
        show Steps p.tables e below (T165.setTop (mkF m 38 #[.val (.int p0_0), .val (.ref b118), .val (.int (1 : Int32)), .unset, .unset] [(.ref w0_EQUAL)])) _
        refine XS.astoreN X165.here hx rfl (hb hby at_38) rfl rfl (l' := #[.val (.int p0_0), .val (.ref b118), .val (.int (1 : Int32)), .val (.ref w0_EQUAL), .unset]) rfl ?_
        show Steps p.tables e below (T165.setTop (mkF m 39 #[.val (.int p0_0), .val (.ref b118), .val (.int (1 : Int32)), .val (.ref w0_EQUAL), .unset] [])) _
        refine XS.iloadN X165.here hx rfl (hb hby at_39) rfl ?_
        show Steps p.tables e below (T165.setTop (mkF m 40 #[.val (.int p0_0), .val (.ref b118), .val (.int (1 : Int32)), .val (.ref w0_EQUAL), .unset] [(.int p0_0)])) _
        refine st172 _ ?_
        exact k)
      obtain ⟨fs, hr, hrun, hended, hW, hsame⟩ := X172.leave (v := some (.int (1 : Int32))) (fun h => by rw [Bd.returns] at h; cases h)
      refine ⟨_, _, pre176 _ ?_, hrun, hended, _, _, rfl, ?_, ⟨_, rfl⟩, hW, hsame.mono (by decide) (by decide)⟩
      · show Steps p.tables e below (T172.setTop (mkF m 43 #[.val (.int p0_0), .val (.ref b118), .val (.int (1 : Int32)), .val (.ref w0_EQUAL), .unset] [(.ref w0_EQUAL)])) _
        refine XS.astore X172.here hx rfl (hb hby at_43) rfl rfl (l' := #[.val (.int p0_0), .val (.ref b118), .val (.int (1 : Int32)), .val (.ref w0_EQUAL), .val (.ref w0_EQUAL)]) rfl ?_
        show Steps p.tables e below (T172.setTop (mkF m 45 #[.val (.int p0_0), .val (.ref b118), .val (.int (1 : Int32)), .val (.ref w0_EQUAL), .val (.ref w0_EQUAL)] [])) _
        refine XS.aload X172.here hx rfl (hb hby at_45) rfl rfl ?_
        show Steps p.tables e below (T172.setTop (mkF m 47 #[.val (.int p0_0), .val (.ref b118), .val (.int (1 : Int32)), .val (.ref w0_EQUAL), .val (.ref w0_EQUAL)] [(.ref w0_EQUAL)])) _
        refine XS.aloadN X172.here hx rfl (hb hby at_47) rfl rfl ?_
        show Steps p.tables e below (T172.setTop (mkF m 48 #[.val (.int p0_0), .val (.ref b118), .val (.int (1 : Int32)), .val (.ref w0_EQUAL), .val (.ref w0_EQUAL)] [(.ref w0_EQUAL), (.ref w0_EQUAL)])) _
        refine Jvm.RoadKit.acmp (g := (mkF m 48 #[.val (.int p0_0), .val (.ref b118), .val (.int (1 : Int32)), .val (.ref w0_EQUAL), .val (.ref w0_EQUAL)] [(.ref w0_EQUAL), (.ref w0_EQUAL)])) X172 hx rfl rfl rfl (pc0 := 48) (pc' := 51) (same := true) rfl (hb hby at_48) rfl (decide_eq_true rfl) (by decide) (by decide) ?_
        show Steps p.tables e below (T172.setTop (mkF m 51 #[.val (.int p0_0), .val (.ref b118), .val (.int (1 : Int32)), .val (.ref w0_EQUAL), .val (.ref w0_EQUAL)] [])) _
        refine XS.iconst X172.here hx rfl (hb hby at_51) ?_
        show Steps p.tables e below (T172.setTop (mkF m 52 #[.val (.int p0_0), .val (.ref b118), .val (.int (1 : Int32)), .val (.ref w0_EQUAL), .val (.ref w0_EQUAL)] [(.int (1 : Int32))])) _
        refine XS.goto X172.here hx rfl (pc0 := 52) (pc' := 56) rfl (hb hby at_52) (by decide) (by decide) ?_
        show Steps p.tables e below (T172.setTop (mkF m 56 #[.val (.int p0_0), .val (.ref b118), .val (.int (1 : Int32)), .val (.ref w0_EQUAL), .val (.ref w0_EQUAL)] [(.int (1 : Int32))])) _
        exact retN X172 hx (t := .boolean) Bd.returns (by simp) (hb hby at_56) hr
      · show Q0 Z p0_0 w0_LESS w0_EQUAL w0_GREATER h0 n0 _ T172.heap _
        rw [e172]
        exact ⟨rfl, N175⟩
set_option maxRecDepth 65536 in
set_option maxHeartbeats 40000000 in
theorem comes_1 {Post : Tables → Env → Array Value → State → Outcome → State → Prop} (hpost : ∀ tb e args s v u, (limb_1_1.after args s (.returned v) u = true ∧ limb_1_2.after args s (.returned v) u = true ∧ True) → FrameEnd s (.returned v) u (Jvm.fieldLocs frame_1_writes args s ++ Jvm.arrayLocs frame_1_arrays args s ++ Jvm.staticLocs frame_1_statics s) 16 128 → Post tb e args s (.returned v) u) :
    ArmFor flags0 classFile x code maxLocals ret World_1 tables_1 room_1 Calls_1 rest_1 Pre_1 Post := by
  intro l hfl _ _ p e ha hc hk s m args below hf hA hF happ hP
  obtain ⟨hcalls, hrest, hpre⟩ := hP
  obtain ⟨-, -, -, hnamed, -, -, -, hat⟩ := (Spec.applies_iff hf).mp happ
  obtain ⟨hg, hn⟩ := and_e (Cond.before_iff.mp (show (Jvm.Cond.and given_1 narrow_1).before args s = true from hpre))
  obtain ⟨g1, g2⟩ := and_e hg
  obtain ⟨w0, rfl⟩ : ∃ w0 : Value, args = #[w0] := by
    have hs : args.size = 1 := by simpa [Cond.value, given_1] using g1
    obtain ⟨L⟩ := args
    match L, hs with
    | [w0], _ => exact ⟨w0, rfl⟩
  have hw := fun d (hd : d ∈ tables_1) => atoms_spec (ws := Jvm.Cond.code x code maxLocals ret :: tables_1) hat d (List.mem_cons_of_mem _ hd)
  have hfit : Fit s := fun {y c} hc i hi => by
    obtain ⟨ha, rfl⟩ := Array.getElem?_eq_some_iff.mp hc
    have q := List.all_eq_true.mp ((Array.all_eq_true_iff_forall_mem.mp hF) _ (Array.getElem_mem ha)) i (List.mem_range.mpr hi)
    simpa [Array.getElem?_eq_getElem hi] using q
  obtain ⟨i0, ei0⟩ := is_v g2
  obtain rfl : w0 = (.int i0) := Option.some.inj ei0
  obtain ⟨y1, y2⟩ := and_e hn
  obtain ⟨y3, y4⟩ := and_e y2
  obtain ⟨sv_LESS, ev_LESS⟩ := exa_v y1
  have XE_LESS := Exa.start ev_LESS y1
  have XS_LESS : Sta s s.heap "com/example/tripleshard/tripleshard/sparql/Order" "LESS" "Lcom/example/tripleshard/tripleshard/sparql/Order;" (.ref sv_LESS) := Sta.start ev_LESS (Or.inr ⟨hw _ (List.mem_of_getElem? (i := 3) rfl), hw _ (List.mem_of_getElem? (i := 4) rfl)⟩)
  obtain ⟨sv_EQUAL, ev_EQUAL⟩ := exa_v y3
  have XE_EQUAL := Exa.start ev_EQUAL y3
  have XS_EQUAL : Sta s s.heap "com/example/tripleshard/tripleshard/sparql/Order" "EQUAL" "Lcom/example/tripleshard/tripleshard/sparql/Order;" (.ref sv_EQUAL) := Sta.start ev_EQUAL (Or.inr ⟨hw _ (List.mem_of_getElem? (i := 3) rfl), hw _ (List.mem_of_getElem? (i := 7) rfl)⟩)
  obtain ⟨sv_GREATER, ev_GREATER⟩ := exa_v y4
  have XE_GREATER := Exa.start ev_GREATER y4
  have XS_GREATER : Sta s s.heap "com/example/tripleshard/tripleshard/sparql/Order" "GREATER" "Lcom/example/tripleshard/tripleshard/sparql/Order;" (.ref sv_GREATER) := Sta.start ev_GREATER (Or.inr ⟨hw _ (List.mem_of_getElem? (i := 3) rfl), hw _ (List.mem_of_getElem? (i := 9) rfl)⟩)
  obtain ⟨n, o, h1, h2, h3, _, L, rfl, ⟨rfl, N⟩, hq⟩ := rm0 l s _ hw tables_1 i0 sv_LESS sv_EQUAL sv_GREATER s.heap s.heap.size (Nat.le_refl _) (Old.start s) XS_LESS XS_EQUAL XS_GREATER XE_LESS XE_EQUAL XE_GREATER p e ha hc hk s m _ below hf ((Spec.applies_iff_loose hf).mp happ).1 ⟨rfl, State.Warmed39.refl s, rfl⟩ trivial
  refine ⟨n, _, h1, h2, h3, hpost _ _ _ _ _ _ ⟨Cond.after_iff.mpr rfl, Cond.after_iff.mpr (eq_i res_at (Term.int_eval (1)) rfl), trivial⟩ ⟨hq.1, hq.2.1, (hq.2.2.sift fun y hy => Or.inr (N y hy)).mono (by decide) (by decide)⟩⟩
theorem main_1_1 : Claimed_1_1 := comes_1 fun _ _ _ _ _ _ h hF => ⟨h.1, hF⟩
theorem main_1_2 : Claimed_1_2 := comes_1 fun _ _ _ _ _ _ h hF => ⟨h.2.1, hF⟩
end Jvm.Pilot.@@N@@
namespace Jvm.Pilot.@@N@@
open Jvm Jvm.ClassFile Sem Op Lib Jvm.Free Jvm.Stand Jvm.Pilot.@@N@@.Jvm.D
/-! MADE BY PROGRAM (witnessworld.py) out of the Statement's table words and the real class files: 14 classes; the members and pool entries that the words name. The judged class is class 1, her method 1. -/
namespace start1
open Jvm.ClassFile
def u (s : String) : CpInfo := .utf8 (stringToUtf16 s)
/-- a pool by its gaps: so many unusable entries, then the entry; so many at the end -/
def gap : Nat → List CpInfo → List CpInfo
  | 0, r => r
  | n + 1, r => .unusable :: gap n r
def poolList (es : List (Nat × CpInfo)) (last : Nat) : List CpInfo := es.foldr (fun e r => gap e.1 (e.2 :: r)) (gap last [])
def pool (es : List (Nat × CpInfo)) (last : Nat) : Array CpInfo := ⟨poolList es last⟩
def fileOf (pool : Array CpInfo) (this : Nat) (attrs : Array Attribute := #[]) (ms : Array MethodInfo := #[]) (fl : Nat := 33) (sup : Nat := 0) (ifs : Array Nat := #[]) (fds : Array FieldInfo := #[]) : ClassFile where
  minorVersion := 0
  majorVersion := 65
  constantPool := pool
  accessFlags := fl
  thisClass := this
  superClass := sup
  interfaces := ifs
  fields := fds
  methods := ms
  attributes := attrs
def plain (name : String) (sup : Option ClassId) : Class where
  name := name
  kind := .ordinary
  loader := none
  accessFlags := 33
  super := sup
  interfaces := #[]
  cf := none
  fields := #[]
  methods := #[]
  instanceTypes := #[]
  staticTypes := #[]
  resolved := #[]
  callSites := []
  init := .initialized
  statics := none
  mirror := none

def pool0 : Array CpInfo := pool [(5, u "<init>"), (0, u "()V"), (1, .class_ 10), (1, u "java/lang/Object")] 113

def k0m0 : Method := { name := "<init>", desc := "()V", sig := { parameters := [], returnType := none }, accessFlags := 1, code := none }
/-- java/lang/Object -/
def k0 : Class := { plain "java/lang/Object" none with
  accessFlags := 33
  interfaces := #[]
  cf := some (fileOf pool0 8 #[] #[{ accessFlags := 1, nameIndex := 5, descriptorIndex := 6, attributes := #[] }] 33 0 #[] #[])
  fields := #[]
  methods := #[k0m0]
  instanceTypes := #[]
  staticTypes := #[]
  resolved := Array.replicate 124 none
  statics := none }

def pool1 : Array CpInfo := pool [(2, .class_ 4), (1, u "java/lang/Object"), (0, u "<init>"), (0, u "()V"), (0, .class_ 8), (0, u "com/example/tripleshard/tripleshard/sparql/Order"), (0, .fieldref 7 10), (0, .nameAndType 11 12), (0, u "LESS"), (0, u "Lcom/example/tripleshard/tripleshard/sparql/Order;"), (0, .fieldref 7 14), (0, .nameAndType 15 12), (0, u "EQUAL"), (0, .fieldref 7 17), (0, .nameAndType 18 12), (0, u "GREATER"), (0, .methodref 20 21), (0, .class_ 22), (0, .nameAndType 23 24), (0, u "java/lang/Math"), (0, u "min"), (0, u "(II)I"), (0, .methodref 20 26), (0, .nameAndType 27 24), (0, u "max"), (0, .methodref 7 29), (0, .nameAndType 30 31), (0, u "of"), (0, u "(I)Lcom/example/tripleshard/tripleshard/sparql/Order;"), (0, .class_ 33), (0, u "com/example/tripleshard/tripleshard/sparql/OrderOfPinLaw"), (2, u "law"), (0, u "(I)Z")] 5

def k1m0 : Method := { name := "<init>", desc := "()V", sig := { parameters := [], returnType := none }, accessFlags := 2, code := none }
def k1c1 : Code := { maxStack := 3, maxLocals := 5, code := code, exceptionTable := #[], attributes := #[] }
def k1m1 : Method := { name := "law", desc := "(I)Z", sig := { parameters := [.int], returnType := some .boolean }, accessFlags := 9, code := some k1c1 }
/-- com/example/tripleshard/tripleshard/sparql/OrderOfPinLaw -/
def k1 : Class := { plain "com/example/tripleshard/tripleshard/sparql/OrderOfPinLaw" (some 0) with
  accessFlags := 49
  interfaces := #[]
  cf := some (fileOf pool1 32 #[] #[{ accessFlags := 2, nameIndex := 5, descriptorIndex := 6, attributes := #[] }, { accessFlags := 9, nameIndex := 36, descriptorIndex := 37, attributes := #[] }] 49 2 #[] #[])
  fields := #[]
  methods := #[k1m0, k1m1]
  instanceTypes := #[]
  staticTypes := #[]
  resolved := Array.replicate 43 none
  statics := none }

def pool2 : Array CpInfo := pool [(1, .class_ 2), (0, u "java/lang/constant/Constable"), (0, .class_ 4), (0, u "java/lang/Object")] 6

/-- java/lang/constant/Constable -/
def k2 : Class := { plain "java/lang/constant/Constable" (some 0) with
  accessFlags := 1537
  interfaces := #[]
  cf := some (fileOf pool2 1 #[] #[] 1537 3 #[] #[])
  fields := #[]
  methods := #[]
  instanceTypes := #[]
  staticTypes := #[]
  resolved := Array.replicate 11 none
  statics := none }

def pool3 : Array CpInfo := pool [(1, .class_ 2), (0, u "java/lang/Comparable"), (0, .class_ 4), (0, u "java/lang/Object")] 7

/-- java/lang/Comparable -/
def k3 : Class := { plain "java/lang/Comparable" (some 0) with
  accessFlags := 1537
  interfaces := #[]
  cf := some (fileOf pool3 1 #[] #[] 1537 3 #[] #[])
  fields := #[]
  methods := #[]
  instanceTypes := #[]
  staticTypes := #[]
  resolved := Array.replicate 12 none
  statics := none }

def pool4 : Array CpInfo := pool [(1, .class_ 2), (0, u "java/io/Serializable"), (0, .class_ 4), (0, u "java/lang/Object")] 2

/-- java/io/Serializable -/
def k4 : Class := { plain "java/io/Serializable" (some 0) with
  accessFlags := 1537
  interfaces := #[]
  cf := some (fileOf pool4 1 #[] #[] 1537 3 #[] #[])
  fields := #[]
  methods := #[]
  instanceTypes := #[]
  staticTypes := #[]
  resolved := Array.replicate 7 none
  statics := none }

def pool5 : Array CpInfo := pool [(2, .class_ 4), (1, u "java/lang/Enum"), (0, u "name"), (0, u "Ljava/lang/String;"), (2, u "ordinal"), (0, u "I"), (1, .class_ 14), (1, u "java/lang/Object"), (4, u "hash"), (86, .class_ 108), (1, u "java/lang/Enum$EnumDesc"), (2, .class_ 112), (0, u "java/lang/constant/Constable"), (0, .class_ 114), (0, u "java/lang/Comparable"), (0, .class_ 116), (0, u "java/io/Serializable")] 87

/-- java/lang/Enum -/
def k5 : Class := { plain "java/lang/Enum" (some 0) with
  accessFlags := 1057
  interfaces := #[2, 3, 4]
  cf := some (fileOf pool5 2 #[.nestMembers #[106]] #[] 1057 12 #[111, 113, 115] #[{ accessFlags := 18, nameIndex := 5, descriptorIndex := 6, attributes := #[] }, { accessFlags := 18, nameIndex := 9, descriptorIndex := 10, attributes := #[] }, { accessFlags := 2, nameIndex := 19, descriptorIndex := 10, attributes := #[] }])
  fields := #[{ name := "name", type := (.object "java/lang/String"), accessFlags := 18, slot := 0, constantValue := 0 }, { name := "ordinal", type := .int, accessFlags := 18, slot := 1, constantValue := 0 }, { name := "hash", type := .int, accessFlags := 2, slot := 2, constantValue := 0 }]
  methods := #[]
  instanceTypes := #[(.object "java/lang/String"), .int, .int]
  staticTypes := #[]
  resolved := Array.replicate 204 none
  statics := none }

def pool6 : Array CpInfo := pool [(1, .class_ 2), (0, u "com/example/tripleshard/tripleshard/sparql/Order"), (0, .fieldref 1 4), (0, .nameAndType 5 6), (0, u "LESS"), (0, u "Lcom/example/tripleshard/tripleshard/sparql/Order;"), (0, .fieldref 1 8), (0, .nameAndType 9 6), (0, u "EQUAL"), (0, .fieldref 1 11), (0, .nameAndType 12 6), (0, u "GREATER"), (2, u "UNORDERED"), (2, u "$VALUES"), (0, u "[Lcom/example/tripleshard/tripleshard/sparql/Order;"), (6, .class_ 28), (1, u "java/lang/Enum"), (22, u "of"), (0, u "(I)Lcom/example/tripleshard/tripleshard/sparql/Order;")] 5

def k6c0 : Code := { maxStack := 1, maxLocals := 2, code := prog_75_method_4_code, exceptionTable := #[], attributes := #[] }
def k6m0 : Method := { name := "of", desc := "(I)Lcom/example/tripleshard/tripleshard/sparql/Order;", sig := { parameters := [.int], returnType := some (.object "com/example/tripleshard/tripleshard/sparql/Order") }, accessFlags := 8, code := some k6c0 }
/-- com/example/tripleshard/tripleshard/sparql/Order -/
def k6 : Class := { plain "com/example/tripleshard/tripleshard/sparql/Order" (some 5) with
  accessFlags := 16432
  interfaces := #[]
  cf := some (fileOf pool6 1 #[] #[{ accessFlags := 8, nameIndex := 51, descriptorIndex := 52, attributes := #[] }] 16432 26 #[] #[{ accessFlags := 16409, nameIndex := 5, descriptorIndex := 6, attributes := #[] }, { accessFlags := 16409, nameIndex := 9, descriptorIndex := 6, attributes := #[] }, { accessFlags := 16409, nameIndex := 12, descriptorIndex := 6, attributes := #[] }, { accessFlags := 16409, nameIndex := 15, descriptorIndex := 6, attributes := #[] }, { accessFlags := 4122, nameIndex := 18, descriptorIndex := 19, attributes := #[] }])
  fields := #[{ name := "LESS", type := (.object "com/example/tripleshard/tripleshard/sparql/Order"), accessFlags := 16409, slot := 0, constantValue := 0 }, { name := "EQUAL", type := (.object "com/example/tripleshard/tripleshard/sparql/Order"), accessFlags := 16409, slot := 1, constantValue := 0 }, { name := "GREATER", type := (.object "com/example/tripleshard/tripleshard/sparql/Order"), accessFlags := 16409, slot := 2, constantValue := 0 }, { name := "UNORDERED", type := (.object "com/example/tripleshard/tripleshard/sparql/Order"), accessFlags := 16409, slot := 3, constantValue := 0 }, { name := "$VALUES", type := (.array (.object "com/example/tripleshard/tripleshard/sparql/Order")), accessFlags := 4122, slot := 4, constantValue := 0 }]
  methods := #[k6m0]
  instanceTypes := #[(.object "java/lang/String"), .int, .int]
  staticTypes := #[(.object "com/example/tripleshard/tripleshard/sparql/Order"), (.object "com/example/tripleshard/tripleshard/sparql/Order"), (.object "com/example/tripleshard/tripleshard/sparql/Order"), (.object "com/example/tripleshard/tripleshard/sparql/Order"), (.array (.object "com/example/tripleshard/tripleshard/sparql/Order"))]
  resolved := Array.replicate 58 none
  statics := some 0 }

def pool7 : Array CpInfo := pool [(1, .class_ 2), (0, u "java/lang/Math"), (1, .class_ 6), (1, u "java/lang/Object"), (0, u "<init>"), (0, u "()V"), (89, .class_ 100), (1, u "java/lang/Math$RandomNumberGeneratorHolder"), (71, u "negativeZeroFloatBits"), (0, u "J"), (2, u "negativeZeroDoubleBits"), (21, u "max"), (2, u "min"), (43, u "$assertionsDisabled"), (0, u "Z"), (88, u "(II)I"), (2, u "twoToTheDoubleScaleDown"), (0, u "D"), (4, u "twoToTheDoubleScaleUp"), (9, u "E"), (3, u "PI"), (2, u "TAU"), (2, u "DEGREES_TO_RADIANS"), (0, u "RADIANS_TO_DEGREES")] 94

def k7m0 : Method := { name := "<init>", desc := "()V", sig := { parameters := [], returnType := none }, accessFlags := 2, code := none }
def k7c1 : Code := { maxStack := 2, maxLocals := 2, code := jdk_29_method_65_code, exceptionTable := #[], attributes := #[] }
def k7m1 : Method := { name := "max", desc := "(II)I", sig := { parameters := [.int, .int], returnType := some .int }, accessFlags := 9, code := some k7c1 }
def k7c2 : Code := { maxStack := 2, maxLocals := 2, code := jdk_29_method_69_code, exceptionTable := #[], attributes := #[] }
def k7m2 : Method := { name := "min", desc := "(II)I", sig := { parameters := [.int, .int], returnType := some .int }, accessFlags := 9, code := some k7c2 }
/-- java/lang/Math -/
def k7 : Class := { plain "java/lang/Math" (some 0) with
  accessFlags := 49
  interfaces := #[]
  cf := some (fileOf pool7 1 #[.nestMembers #[98]] #[{ accessFlags := 2, nameIndex := 7, descriptorIndex := 8, attributes := #[] }, { accessFlags := 9, nameIndex := 198, descriptorIndex := 335, attributes := #[] }, { accessFlags := 9, nameIndex := 201, descriptorIndex := 335, attributes := #[] }] 49 4 #[] #[{ accessFlags := 25, nameIndex := 354, descriptorIndex := 339, attributes := #[] }, { accessFlags := 25, nameIndex := 358, descriptorIndex := 339, attributes := #[] }, { accessFlags := 25, nameIndex := 361, descriptorIndex := 339, attributes := #[] }, { accessFlags := 26, nameIndex := 364, descriptorIndex := 339, attributes := #[] }, { accessFlags := 26, nameIndex := 365, descriptorIndex := 339, attributes := #[] }, { accessFlags := 26, nameIndex := 172, descriptorIndex := 173, attributes := #[] }, { accessFlags := 26, nameIndex := 176, descriptorIndex := 173, attributes := #[] }, { accessFlags := 8, nameIndex := 344, descriptorIndex := 339, attributes := #[] }, { accessFlags := 8, nameIndex := 338, descriptorIndex := 339, attributes := #[] }, { accessFlags := 4120, nameIndex := 245, descriptorIndex := 246, attributes := #[] }])
  fields := #[{ name := "E", type := .double, accessFlags := 25, slot := 0, constantValue := 0 }, { name := "PI", type := .double, accessFlags := 25, slot := 1, constantValue := 0 }, { name := "TAU", type := .double, accessFlags := 25, slot := 2, constantValue := 0 }, { name := "DEGREES_TO_RADIANS", type := .double, accessFlags := 26, slot := 3, constantValue := 0 }, { name := "RADIANS_TO_DEGREES", type := .double, accessFlags := 26, slot := 4, constantValue := 0 }, { name := "negativeZeroFloatBits", type := .long, accessFlags := 26, slot := 5, constantValue := 0 }, { name := "negativeZeroDoubleBits", type := .long, accessFlags := 26, slot := 6, constantValue := 0 }, { name := "twoToTheDoubleScaleUp", type := .double, accessFlags := 8, slot := 7, constantValue := 0 }, { name := "twoToTheDoubleScaleDown", type := .double, accessFlags := 8, slot := 8, constantValue := 0 }, { name := "$assertionsDisabled", type := .boolean, accessFlags := 4120, slot := 9, constantValue := 0 }]
  methods := #[k7m0, k7m1, k7m2]
  instanceTypes := #[]
  staticTypes := #[.double, .double, .double, .double, .double, .long, .long, .double, .double, .boolean]
  resolved := Array.replicate 460 none
  statics := none }

def pool8 : Array CpInfo := pool [(1, u "java/lang/Cloneable"), (0, .class_ 1), (0, u "java/lang/Object"), (0, .class_ 3)] 3

/-- java/lang/Cloneable -/
def k8 : Class := { plain "java/lang/Cloneable" (some 0) with
  accessFlags := 1537
  interfaces := #[]
  cf := some (fileOf pool8 2 #[] #[] 1537 4 #[] #[])
  fields := #[]
  methods := #[]
  instanceTypes := #[]
  staticTypes := #[]
  resolved := Array.replicate 8 none
  statics := none }

/-- the primitive byte -/
def k9 : Class := { plain "byte" none with kind := .primitive 'B', accessFlags := 0x411 }
/-- [B -/
def k10 : Class := { plain "[B" (some 0) with kind := .array 9 .byte, interfaces := #[8, 4], accessFlags := 1041 }

/-- the primitive int -/
def k11 : Class := { plain "int" none with kind := .primitive 'I', accessFlags := 0x411 }
/-- [I -/
def k12 : Class := { plain "[I" (some 0) with kind := .array 11 .int, interfaces := #[8, 4], accessFlags := 1041 }

/-- [Lcom/example/tripleshard/tripleshard/sparql/Order; -/
def k13 : Class := { plain "[Lcom/example/tripleshard/tripleshard/sparql/Order;" (some 0) with kind := .array 6 (.object "com/example/tripleshard/tripleshard/sparql/Order"), interfaces := #[8, 4], accessFlags := 1041 }

def heap : Heap := #[{ cls := 6, slots := #[.ref 1, .ref 2, .ref 3, .null, .null], vm := .statics 6 },
  { cls := 6, slots := #[.null, .int 0, .int 0], vm := .none },
  { cls := 6, slots := #[.null, .int 1, .int 0], vm := .none },
  { cls := 6, slots := #[.null, .int 2, .int 0], vm := .none }]
def classes : Array Class := #[k0, k1, k2, k3, k4, k5, k6, k7, k8, k9, k10, k11, k12, k13]
def interned : List (Array UInt16 × Addr) := []
def slotsUsed : Nat := 14
def theMethod : MethodId := ⟨1, 1⟩
def args0 : Array Value := #[.int 5]
def aboutOver (below : List Frame) : State where
  vm := { classes := classes, interned := interned.toArray }
  heap := heap
  slotsUsed := slotsUsed
  threads := #[{ frames := .invoking theMethod args0 :: below }]
def below0 : List Frame := [.native { method := ⟨0, 0⟩, args := #[] }]
def about1 : State := aboutOver below0
def p0 : Program := .bare "" "" ""
def e0 : Env := launch0.env 0 0 0
theorem w_frames : about1.frames = Frame.invoking theMethod args0 :: below0 := rfl
set_option maxRecDepth 65536 in
theorem w_args : argsFit about1.vm theMethod args0 = true := by decide +kernel
set_option maxRecDepth 65536 in
theorem w_heap : heapFits about1 = true := by decide +kernel
set_option maxRecDepth 65536 in
theorem w_runnable : about1.curStatus? = some .runnable := by decide +kernel
set_option maxRecDepth 65536 in
theorem w_alone : about1.alone = true := by decide +kernel
set_option maxRecDepth 65536 in
theorem w_named : about1.methodNamed? x = some theMethod := by decide +kernel
set_option maxRecDepth 65536 in
theorem w_hears : about1.hears theMethod below0 = true := by decide +kernel
set_option maxRecDepth 65536 in
theorem w_ripe : about1.ripe theMethod args0 below0 = true := by decide +kernel
theorem w_running : about1.status = .running := rfl
set_option maxRecDepth 65536 in
theorem w_room : about1.hasRoom e0.platform room_1 = true :=
  launch0.hasRoom_least _ room_1 (by decide +kernel) (by decide +kernel) (by decide +kernel) (by decide +kernel) (by decide +kernel) (by decide +kernel)
theorem allAtoms_all (ts : List Jvm.Cond) (a : Array Jvm.Value) (st : Jvm.State) : (allAtoms ts).before a st = ts.all (fun c => c.before a st) := by
  induction ts with
  | nil => rfl
  | cons c t ih =>
    show (Jvm.Cond.and c (allAtoms t)).before a st = _
    rw [Jvm.Cond.before_and, ih, List.all_cons]
def words1 : List Jvm.Cond := Jvm.Cond.code x code maxLocals ret :: tables_1
/-- a 'code' word, met by the world's own term for the bytes: nothing is compared byte by byte -/
theorem code_word {y : MethodName} {bytes : ByteArray} {mx : Nat} {rt : Option FieldType} {a : Array Value} {s : State} {m : MethodId} {meth : Method} {c : Code} (h1 : s.methodNamed? y = some m) (h2 : s.vm.method? m = some meth) (h3 : meth.code = some c) (h4 : c.code = bytes)
    (h5 : (c.maxLocals == mx && c.exceptionTable.isEmpty && decide (c.maxStack ≤ mostOperands) && decide (meth.sig.returnType = rt) && !meth.locks && decide (parseMethodDescriptor y.desc = some meth.sig)) = true) : (Jvm.Cond.code y bytes mx rt).before a s = true := by
  simp only [Bool.and_eq_true, beq_iff_eq, Bool.not_eq_true', decide_eq_true_eq] at h5
  obtain ⟨⟨⟨⟨⟨g1, g2⟩, g3⟩, g4⟩, g5⟩, g6⟩ := h5
  simp [Cond.before, Cond.holds, Cond.value, h1, h2, h3, h4, g1, g2, g3, g4, g5, g6]
def isCode : Jvm.Cond → Bool
  | .code _ _ _ _ => true
  | _ => false
theorem all_split {L : List Jvm.Cond} {P : Jvm.Cond → Bool} (h1 : L.all (fun c => isCode c || P c) = true) (h2 : ∀ c ∈ L.filter isCode, P c = true) : L.all P = true := by
  refine List.all_eq_true.mpr fun c hc => ?_
  have h := List.all_eq_true.mp h1 c hc
  rcases Bool.eq_false_or_eq_true (isCode c) with hi | hi
  · exact h2 c (List.mem_filter.mpr ⟨hc, hi⟩)
  · simpa [hi] using h
set_option maxRecDepth 65536 in
theorem w_c0 : (Jvm.Cond.code x code maxLocals ret).before args0 about1 = true := code_word (m := ⟨1, 1⟩) (meth := k1m1) (c := k1c1) (by decide +kernel) rfl rfl rfl (by decide +kernel)
set_option maxRecDepth 65536 in
theorem w_c1 : (Jvm.Cond.code ({ cls := "java/lang/Math", name := "min", desc := "(II)I" } : Jvm.MethodName) jdk_29_method_69_code (2 : Nat) (Option.some Jvm.ClassFile.FieldType.int)).before args0 about1 = true := code_word (m := ⟨7, 2⟩) (meth := k7m2) (c := k7c2) (by decide +kernel) rfl rfl rfl (by decide +kernel)
set_option maxRecDepth 65536 in
theorem w_c2 : (Jvm.Cond.code ({ cls := "java/lang/Math", name := "max", desc := "(II)I" } : Jvm.MethodName) jdk_29_method_65_code (2 : Nat) (Option.some Jvm.ClassFile.FieldType.int)).before args0 about1 = true := code_word (m := ⟨7, 1⟩) (meth := k7m1) (c := k7c1) (by decide +kernel) rfl rfl rfl (by decide +kernel)
set_option maxRecDepth 65536 in
theorem w_c3 : (Jvm.Cond.code ({ cls := "com/example/tripleshard/tripleshard/sparql/Order", name := "of", desc := "(I)Lcom/example/tripleshard/tripleshard/sparql/Order;" } : Jvm.MethodName) prog_75_method_4_code (2 : Nat) (Option.some (Jvm.ClassFile.FieldType.object "com/example/tripleshard/tripleshard/sparql/Order"))).before args0 about1 = true := code_word (m := ⟨6, 0⟩) (meth := k6m0) (c := k6c0) (by decide +kernel) rfl rfl rfl (by decide +kernel)
def codes1 : List Jvm.Cond := [Jvm.Cond.code x code maxLocals ret, Jvm.Cond.code ({ cls := "java/lang/Math", name := "min", desc := "(II)I" } : Jvm.MethodName) jdk_29_method_69_code (2 : Nat) (Option.some Jvm.ClassFile.FieldType.int), Jvm.Cond.code ({ cls := "java/lang/Math", name := "max", desc := "(II)I" } : Jvm.MethodName) jdk_29_method_65_code (2 : Nat) (Option.some Jvm.ClassFile.FieldType.int), Jvm.Cond.code ({ cls := "com/example/tripleshard/tripleshard/sparql/Order", name := "of", desc := "(I)Lcom/example/tripleshard/tripleshard/sparql/Order;" } : Jvm.MethodName) prog_75_method_4_code (2 : Nat) (Option.some (Jvm.ClassFile.FieldType.object "com/example/tripleshard/tripleshard/sparql/Order"))]
set_option maxRecDepth 65536 in
theorem codes_eq : words1.filter isCode = codes1 := rfl
theorem w_codes : ∀ c ∈ words1.filter isCode, c.before args0 about1 = true := by
  rw [codes_eq]
  intro c hc
  simp only [codes1, List.mem_cons, List.not_mem_nil, or_false] at hc
  rcases hc with rfl | rfl | rfl | rfl
  · exact w_c0
  · exact w_c1
  · exact w_c2
  · exact w_c3
set_option maxRecDepth 65536 in
theorem w_t1 : words1.all (fun c => isCode c || c.before args0 about1) = true := by decide +kernel
theorem w_tables : (allAtoms (Jvm.Cond.code x code maxLocals ret :: tables_1)).before args0 about1 = true := by
  rw [allAtoms_all]
  show words1.all (fun c => c.before args0 about1) = true
  refine all_split ?_ w_codes
  rw [w_t1]
set_option maxRecDepth 65536 in
theorem w_case : (Jvm.Cond.and given_1 narrow_1).before args0 about1 = true := by decide +kernel
theorem w_applies : (headSpec (Jvm.Cond.code x code maxLocals ret :: tables_1) room_1).applies x e0.platform about1 = true :=
  (Spec.applies_iff w_frames).mpr ⟨w_running, w_runnable, w_alone, w_named, w_hears, w_ripe, w_room, w_tables⟩
theorem atStart : AtStart classFile x code maxLocals ret World_1 tables_1 room_1 Calls_1 rest_1 Pre_1 launch0 p0 e0 about1 theMethod args0 below0 :=
  ⟨lists_1, trivial, launch0.admits_env _ _ _, launch0.least_env, fairChoices_fair.cas, fairChoices_fair.clock, w_frames, w_args, w_heap, w_applies, trivial, trivial, w_case⟩
end start1
theorem witness_1 : WitnessClaimed_1 := ⟨start1.p0, start1.e0, start1.about1, start1.theMethod, start1.args0, start1.below0, start1.atStart⟩
end Jvm.Pilot.@@N@@
