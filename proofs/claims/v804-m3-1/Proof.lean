import JvmDerived
import JvmDerived.Pilot.@@N@@Statement
import JvmDerived.Pilot.@@N@@Code
set_option linter.unusedVariables false
set_option linter.unusedSimpArgs false
namespace Jvm.RoadKit
open Sem ClassFile Op Lib Jvm.Stand Jvm.Free Jvm.LawKit
section New
variable {p : Program} {l : Launch} {e : Env} {R : Room} {s : State} {m : MethodId} {args : Array Value} {below : List Frame} {meth : Method} {c : Code} {T : State} {locs : List Loc} {cells slots : Nat}
theorem retI (X : Stand p l e R s m args below meth c T locs cells slots) (hx : p.tables.exec = Jvm.exec) {pc : Nat} {Ls : Array Slot} {z : Int32} {rest : List Value} (hret : meth.sig.returnType = some .int) (hd : decode c.code pc = .ok (.ireturn, 1)) {fs : List Frame}
    (hl : ∀ (f : JFrame) (acts : List Action), f.method = m → f.locked = none → f.entered = [] → (doReturn e (T.setTop f) acts (some (.int z))).1 = T.setFrames fs) : Steps p.tables e below (T.setTop (mkF m pc Ls (.int z :: rest))) (T.setFrames fs) := by
  have hm' : T.vm.method? m = some meth := X.method'
  have hn : narrow .int (.int z) = .int z := rfl
  show Steps p.tables e below (T.setTop { method := m, pc := pc, locals := Ls, stack := _ :: rest, locked := none }) _
  jvm_step X.here [X.here.top, hx, hd, hm', hret, hn]
  first | (intro acts; rw [hl _ acts rfl rfl rfl]) | rw [hl _ _ rfl rfl rfl]
  exact Steps.refl _
end New
end Jvm.RoadKit
namespace Jvm.Pilot.@@N@@
open Jvm Jvm.ClassFile Sem Op Lib Jvm.Free Jvm.Stand Jvm.LawKit Jvm.RoadKit Bundle Jvm.Pilot.@@N@@.Jvm.D
/-- a boolean of the law's, as the int that the machine holds -/
def bI (P : Prop) [Decidable P] : Int32 := if P then 1 else 0
theorem bI_t {P : Prop} [Decidable P] (h : P) : bI P = (1 : Int32) := if_pos h
theorem bI_f {P : Prop} [Decidable P] (h : ¬ P) : bI P = (0 : Int32) := if_neg h
theorem bI_n {P : Prop} [Decidable P] (h : P) : ¬ (bI P = (0 : Int32)) := by rw [bI_t h]; decide
theorem bI_iff {P Q : Prop} [Decidable P] [Decidable Q] (h : P ↔ Q) : bI P = bI Q := by
  by_cases p : P
  · rw [bI_t p, bI_t (h.mp p)]
  · rw [bI_f p, bI_f fun q => p (h.mpr q)]
theorem bI_nar {P : Prop} [Decidable P] : nar .boolean (bI P) = bI P := by
  by_cases p : P
  · rw [bI_t p]; rfl
  · rw [bI_f p]; rfl
theorem own_fin (a : Int32) (P : Prop) [Decidable P] : bI ((((((a &&& (1073741823 : Int32)) * (2 : Int32)) + (bI P)) - ((((a &&& (1073741823 : Int32)) * (2 : Int32)) + (bI P)) / (2 : Int32)) * (2 : Int32))) = (1 : Int32)) = bI P := by
  have e1 := c_mask a 1073741823 30 (by decide) (by decide)
  generalize a &&& (1073741823 : Int32) = x at *
  have h0 : 0 ≤ x.toInt := by rw [e1]; exact Int.emod_nonneg _ (by decide)
  have h1 : x.toInt < 1073741824 := by rw [e1]; exact Int.emod_lt_of_pos _ (by decide)
  have m := c_imul x 2
  have rm := rng32 (x * 2)
  have e2 : (2 : Int32).toInt = 2 := by decide
  have e3 : (1 : Int32).toInt = 1 := by decide
  have e4 : (0 : Int32).toInt = 0 := by decide
  rw [e2] at m
  have a1 := c_iadd (x * 2) (bI P)
  have ra := rng32 (x * 2 + bI P)
  have hb : (P ∧ (bI P).toInt = 1) ∨ (¬ P ∧ (bI P).toInt = 0) := by
    by_cases p : P
    · exact Or.inl ⟨p, by rw [bI_t p]; exact e3⟩
    · exact Or.inr ⟨p, by rw [bI_f p]; exact e4⟩
  have hs : 0 ≤ (x * 2 + bI P).toInt := by omega
  have d := (c_idiv (x * 2 + bI P) 2 2 (by decide) (by decide)).1 hs
  have m2 := c_imul ((x * 2 + bI P) / 2) 2
  have rm2 := rng32 ((x * 2 + bI P) / 2 * 2)
  rw [d, e2] at m2
  have s := c_isub (x * 2 + bI P) ((x * 2 + bI P) / 2 * 2)
  have rs := rng32 ((x * 2 + bI P) - (x * 2 + bI P) / 2 * 2)
  refine bI_iff ⟨fun q => ?_, fun q => ?_⟩
  · have q' := congrArg Int32.toInt q
    rw [e3] at q'
    rcases hb with hb | hb
    · exact hb.1
    · omega
  · refine Int32.toInt_inj.mp ?_
    rw [e3]
    rcases hb with hb | hb
    · omega
    · exact absurd q hb.1
theorem d1_0 : decode prog_2_method_11_code 0 = .ok (.iload_n 0, 1) := by decide +kernel
theorem d1_1 : decode prog_2_method_11_code 1 = .ok (.iconst 2, 1) := by decide +kernel
theorem d1_2 : decode prog_2_method_11_code 2 = .ok (.irem, 1) := by decide +kernel
theorem d1_3 : decode prog_2_method_11_code 3 = .ok (.iconst 1, 1) := by decide +kernel
theorem d1_4 : decode prog_2_method_11_code 4 = .ok (.if_icmp .ne 7, 3) := by decide +kernel
theorem d1_7 : decode prog_2_method_11_code 7 = .ok (.iconst 1, 1) := by decide +kernel
theorem d1_8 : decode prog_2_method_11_code 8 = .ok (.goto 4, 3) := by decide +kernel
theorem d1_11 : decode prog_2_method_11_code 11 = .ok (.iconst 0, 1) := by decide +kernel
theorem d1_12 : decode prog_2_method_11_code 12 = .ok (.ireturn, 1) := by decide +kernel
theorem pn_1 : plainName "com/example/regista/regista/BooleanAutomaton" = true := by first | (simp [plainName, overriddenIn]; done) | decide +kernel
theorem ef_1 (m : MethodId) (x0 : Int32) : entryFrame m #[(.int x0)] 1 = mkF m 0 #[.val (.int x0)] [] := by first | (simp [entryFrame, mkF, argsToLocals, Value.category]; done) | rfl
def Q1 (Z : State) (p1_0 : Int32) (h0 : Heap) (n0 : Nat) (v : Option Value) (h : Heap) (L : List Loc) : Prop := v = some (.int (bI ((p1_0 - (p1_0 / (2 : Int32)) * (2 : Int32)) = (1 : Int32)))) ∧ Fr n0 L ∧ h = h0
set_option maxRecDepth 65536 in
set_option maxHeartbeats 40000000 in
theorem rm1 (l : Launch) (Z : State) (a0 : Array Value) (hw : ∀ d ∈ tables_1, d.before a0 Z = true) (ws : List Jvm.Cond) (p1_0 : Int32) (h0 : Heap) (n0 : Nat) (Z0 : n0 ≤ h0.size) :
    MetFree l (⟨"com/example/regista/regista/BooleanAutomaton", "marked", "(I)Z"⟩ : MethodName) (head1 (Jvm.Cond.code (⟨"com/example/regista/regista/BooleanAutomaton", "marked", "(I)Z"⟩ : MethodName) prog_2_method_11_code 1 (some .boolean) :: ws) ({ frames := 0, cells := 0, slots := 0, locals := 0 } : Room)) (fun a U => a = #[(.int p1_0)] ∧ Z.Warmed39 U.vm ∧ U.heap = h0) (fun _ _ _ _ _ => True) (fun _ U o U' => ∃ v L, o = .returned v ∧ Q1 Z p1_0 h0 n0 v U'.heap L ∧ FrameEnd U o U' L ({ frames := 0, cells := 0, slots := 0, locals := 0 } : Room).cells ({ frames := 0, cells := 0, slots := 0, locals := 0 } : Room).slots) := by
  refine MetFree.of_bodySF (plainFor_of_name pn_1) hisR ?_
  intro p e s m args below meth c s₁ Bd hml0 hP hK
  obtain ⟨rfl, hZ, hh⟩ := hP
  have hW : ∀ (i : Nat) (d : Jvm.Cond), tables_1[i]? = some d → d.before a0 Z = true := fun i d h => hw d (List.mem_of_getElem? h)
  have hx := Bd.exec
  have hby := Bd.bytes
  have hml : c.maxLocals = 1 := hml0
  have hown : s.vm.findClass "com/example/regista/regista/BooleanAutomaton" = some m.cls := findClass_of_methodNamed Bd.named
  have hnm := (name_of_methodNamed Bd.named Bd.method).1
  have X0 : Stand p l e ({ frames := 0, cells := 0, slots := 0, locals := 0 } : Room) s m #[(.int p1_0)] below meth c s₁ [] 0 0 := Stand.of_body Bd
  have e0 : s₁.heap = h0 := by rw [← hh, Bd.state]; rfl
  have N0 := Fr.nil n0
  have pre0 : ∀ t, Steps p.tables e below (s₁.setTop (mkF m 0 #[.val (.int p1_0)] [])) t → Steps p.tables e below (s₁.setTop (entryFrame m #[(.int p1_0)] 1)) t := fun t k => castTop (ef_1 m p1_0) k
  by_cases hc1 : (p1_0 - (p1_0 / (2 : Int32)) * (2 : Int32)) = (1 : Int32)
  · obtain ⟨fs, hr, hrun, hended, hW, hsame⟩ := X0.leave (v := some (.int (1 : Int32))) (fun h => by rw [Bd.returns] at h; cases h)
    refine ⟨_, _, pre0 _ ?_, hrun, hended, _, _, rfl, ?_, ⟨_, rfl⟩, hW, hsame.mono (by decide) (by decide)⟩
    · show Steps p.tables e below (s₁.setTop (mkF m 0 #[.val (.int p1_0)] [])) _
      refine XS.iloadN X0.here hx rfl (hb hby d1_0) rfl ?_
      show Steps p.tables e below (s₁.setTop (mkF m 1 #[.val (.int p1_0)] [(.int p1_0)])) _
      refine XS.iconst X0.here hx rfl (hb hby d1_1) ?_
      show Steps p.tables e below (s₁.setTop (mkF m 2 #[.val (.int p1_0)] [(.int (2 : Int32)), (.int p1_0)])) _
      refine XS.irem X0.here hx rfl (hb hby d1_2) rfl (by decide) ?_
      show Steps p.tables e below (s₁.setTop (mkF m 3 #[.val (.int p1_0)] [(.int (p1_0 - (p1_0 / (2 : Int32)) * (2 : Int32)))])) _
      refine XS.iconst X0.here hx rfl (hb hby d1_3) ?_
      show Steps p.tables e below (s₁.setTop (mkF m 4 #[.val (.int p1_0)] [(.int (1 : Int32)), (.int (p1_0 - (p1_0 / (2 : Int32)) * (2 : Int32)))])) _
      refine XS.icmpNo X0.here hx rfl (hb hby d1_4) rfl (teq hc1).2 ?_
      show Steps p.tables e below (s₁.setTop (mkF m 7 #[.val (.int p1_0)] [])) _
      refine XS.iconst X0.here hx rfl (hb hby d1_7) ?_
      show Steps p.tables e below (s₁.setTop (mkF m 8 #[.val (.int p1_0)] [(.int (1 : Int32))])) _
      refine XS.goto X0.here hx rfl (pc0 := 8) (pc' := 12) rfl (hb hby d1_8) (by decide) (by decide) ?_
      show Steps p.tables e below (s₁.setTop (mkF m 12 #[.val (.int p1_0)] [(.int (1 : Int32))])) _
      exact retN X0 hx (t := .boolean) Bd.returns (by simp) (hb hby d1_12) hr
    · show Q1 Z p1_0 h0 n0 _ s₁.heap _
      rw [e0]
      exact ⟨(congrArg (fun z => some (Value.int z)) ((bI_t hc1) : (bI ((p1_0 - (p1_0 / (2 : Int32)) * (2 : Int32)) = (1 : Int32))) = (1 : Int32)).symm), N0, rfl⟩
  · obtain ⟨fs, hr, hrun, hended, hW, hsame⟩ := X0.leave (v := some (.int (0 : Int32))) (fun h => by rw [Bd.returns] at h; cases h)
    refine ⟨_, _, pre0 _ ?_, hrun, hended, _, _, rfl, ?_, ⟨_, rfl⟩, hW, hsame.mono (by decide) (by decide)⟩
    · show Steps p.tables e below (s₁.setTop (mkF m 0 #[.val (.int p1_0)] [])) _
      refine XS.iloadN X0.here hx rfl (hb hby d1_0) rfl ?_
      show Steps p.tables e below (s₁.setTop (mkF m 1 #[.val (.int p1_0)] [(.int p1_0)])) _
      refine XS.iconst X0.here hx rfl (hb hby d1_1) ?_
      show Steps p.tables e below (s₁.setTop (mkF m 2 #[.val (.int p1_0)] [(.int (2 : Int32)), (.int p1_0)])) _
      refine XS.irem X0.here hx rfl (hb hby d1_2) rfl (by decide) ?_
      show Steps p.tables e below (s₁.setTop (mkF m 3 #[.val (.int p1_0)] [(.int (p1_0 - (p1_0 / (2 : Int32)) * (2 : Int32)))])) _
      refine XS.iconst X0.here hx rfl (hb hby d1_3) ?_
      show Steps p.tables e below (s₁.setTop (mkF m 4 #[.val (.int p1_0)] [(.int (1 : Int32)), (.int (p1_0 - (p1_0 / (2 : Int32)) * (2 : Int32)))])) _
      refine XS.icmpYes X0.here hx rfl (pc0 := 4) (pc' := 11) rfl (hb hby d1_4) rfl (feq hc1).2 (by decide) (by decide) ?_
      show Steps p.tables e below (s₁.setTop (mkF m 11 #[.val (.int p1_0)] [])) _
      refine XS.iconst X0.here hx rfl (hb hby d1_11) ?_
      show Steps p.tables e below (s₁.setTop (mkF m 12 #[.val (.int p1_0)] [(.int (0 : Int32))])) _
      exact retN X0 hx (t := .boolean) Bd.returns (by simp) (hb hby d1_12) hr
    · show Q1 Z p1_0 h0 n0 _ s₁.heap _
      rw [e0]
      exact ⟨(congrArg (fun z => some (Value.int z)) ((bI_f hc1) : (bI ((p1_0 - (p1_0 / (2 : Int32)) * (2 : Int32)) = (1 : Int32))) = (0 : Int32)).symm), N0, rfl⟩
theorem pd_0 : parseMethodDescriptor "(I)Z" = some ⟨[.int], some .boolean⟩ := by decide +kernel
theorem pn_0 : plainName "com/example/regista/regista/BooleanAutomatonMarkedPinLaw" = true := by first | (simp [plainName, overriddenIn]; done) | decide +kernel
theorem ef_0 (m : MethodId) (x0 : Int32) (x1 : Int32) : entryFrame m #[(.int x0), (.int x1)] maxLocals = mkF m 0 #[.val (.int x0), .val (.int x1), .unset, .unset, .unset] [] := by first | (simp [entryFrame, mkF, argsToLocals, Value.category, maxLocals]; done) | rfl
def Q0 (Z : State) (p0_0 : Int32) (p0_1 : Int32) (h0 : Heap) (n0 : Nat) (v : Option Value) (h : Heap) (L : List Loc) : Prop := v = some (.int (1 : Int32)) ∧ Fr n0 L
set_option maxRecDepth 65536 in
set_option maxHeartbeats 40000000 in
theorem rm0 (l : Launch) (Z : State) (a0 : Array Value) (hw : ∀ d ∈ tables_1, d.before a0 Z = true) (ws : List Jvm.Cond) (p0_0 : Int32) (p0_1 : Int32) (h0 : Heap) (n0 : Nat) (Z0 : n0 ≤ h0.size) :
    MetFree l x (head1 (Jvm.Cond.code x code maxLocals ret :: ws) room_1) (fun a U => a = #[(.int p0_0), (.int p0_1)] ∧ Z.Warmed39 U.vm ∧ U.heap = h0) (fun _ _ _ _ _ => True) (fun _ U o U' => ∃ v L, o = .returned v ∧ Q0 Z p0_0 p0_1 h0 n0 v U'.heap L ∧ FrameEnd U o U' L room_1.cells room_1.slots) := by
  refine MetFree.of_bodySF (plainFor_of_name pn_0) hisR ?_
  intro p e s m args below meth c s₁ Bd hml0 hP hK
  obtain ⟨rfl, hZ, hh⟩ := hP
  have hW : ∀ (i : Nat) (d : Jvm.Cond), tables_1[i]? = some d → d.before a0 Z = true := fun i d h => hw d (List.mem_of_getElem? h)
  have hx := Bd.exec
  have hby := Bd.bytes
  have hml : c.maxLocals = 5 := hml0
  have hown : s.vm.findClass "com/example/regista/regista/BooleanAutomatonMarkedPinLaw" = some m.cls := findClass_of_methodNamed Bd.named
  have hnm := (name_of_methodNamed Bd.named Bd.method).1
  have X0 : Stand p l e room_1 s m #[(.int p0_0), (.int p0_1)] below meth c s₁ [] 0 0 := Stand.of_body Bd
  have e0 : s₁.heap = h0 := by rw [← hh, Bd.state]; rfl
  have N0 := Fr.nil n0
  have pre0 : ∀ t, Steps p.tables e below (s₁.setTop (mkF m 0 #[.val (.int p0_0), .val (.int p0_1), .unset, .unset, .unset] [])) t → Steps p.tables e below (s₁.setTop (entryFrame m #[(.int p0_0), (.int p0_1)] maxLocals)) t := fun t k => castTop (ef_0 m p0_0 p0_1) k
  have pre2 : ∀ t, Steps p.tables e below (s₁.setTop (mkF m 8 #[.val (.int p0_0), .val (.int p0_1), .val (.int (p0_0 &&& (1073741823 : Int32))), .unset, .unset] [(.int (p0_1 &&& (1 : Int32)))])) t → Steps p.tables e below (s₁.setTop (entryFrame m #[(.int p0_0), (.int p0_1)] maxLocals)) t := fun t k => pre0 t (by
    show Steps p.tables e below (s₁.setTop (mkF m 0 #[.val (.int p0_0), .val (.int p0_1), .unset, .unset, .unset] [])) _
    refine XS.iloadN X0.here hx rfl (hb hby at_0) rfl ?_
    show Steps p.tables e below (s₁.setTop (mkF m 1 #[.val (.int p0_0), .val (.int p0_1), .unset, .unset, .unset] [(.int p0_0)])) _
    refine X0.ldcInt hx hown (mvT hZ (hW 0 _ rfl)) (g := (mkF m 1 #[.val (.int p0_0), .val (.int p0_1), .unset, .unset, .unset] [(.int p0_0)])) rfl (hb hby at_1) _ ?_
    show Steps p.tables e below (s₁.setTop (mkF m 3 #[.val (.int p0_0), .val (.int p0_1), .unset, .unset, .unset] [(.int (1073741823 : Int32)), (.int p0_0)])) _
    refine XS.iand X0.here hx rfl (hb hby at_3) rfl ?_
    show Steps p.tables e below (s₁.setTop (mkF m 4 #[.val (.int p0_0), .val (.int p0_1), .unset, .unset, .unset] [(.int (p0_0 &&& (1073741823 : Int32)))])) _
    refine XS.istoreN X0.here hx rfl (hb hby at_4) rfl (l' := #[.val (.int p0_0), .val (.int p0_1), .val (.int (p0_0 &&& (1073741823 : Int32))), .unset, .unset]) rfl ?_
    show Steps p.tables e below (s₁.setTop (mkF m 5 #[.val (.int p0_0), .val (.int p0_1), .val (.int (p0_0 &&& (1073741823 : Int32))), .unset, .unset] [])) _
    refine XS.iloadN X0.here hx rfl (hb hby at_5) rfl ?_
    show Steps p.tables e below (s₁.setTop (mkF m 6 #[.val (.int p0_0), .val (.int p0_1), .val (.int (p0_0 &&& (1073741823 : Int32))), .unset, .unset] [(.int p0_1)])) _
    refine XS.iconst X0.here hx rfl (hb hby at_6) ?_
    show Steps p.tables e below (s₁.setTop (mkF m 7 #[.val (.int p0_0), .val (.int p0_1), .val (.int (p0_0 &&& (1073741823 : Int32))), .unset, .unset] [(.int (1 : Int32)), (.int p0_1)])) _
    refine XS.iand X0.here hx rfl (hb hby at_7) rfl ?_
    exact k)
  have pre3 : ∀ t, Steps p.tables e below (s₁.setTop (mkF m 16 #[.val (.int p0_0), .val (.int p0_1), .val (.int (p0_0 &&& (1073741823 : Int32))), .unset, .unset] [(.int (bI (¬ ((p0_1 &&& (1 : Int32)) = (0 : Int32)))))])) t → Steps p.tables e below (s₁.setTop (entryFrame m #[(.int p0_0), (.int p0_1)] maxLocals)) t := fun t k => pre2 t (by
    by_cases hc1 : (p0_1 &&& (1 : Int32)) = (0 : Int32)
    · show Steps p.tables e below (s₁.setTop (mkF m 8 #[.val (.int p0_0), .val (.int p0_1), .val (.int (p0_0 &&& (1073741823 : Int32))), .unset, .unset] [(.int (p0_1 &&& (1 : Int32)))])) _
      refine XS.ifYes X0.here hx rfl (pc0 := 8) (pc' := 15) rfl (hb hby at_8) rfl ((if0 _ _).trans (teq hc1).1) (by decide) (by decide) ?_
      show Steps p.tables e below (s₁.setTop (mkF m 15 #[.val (.int p0_0), .val (.int p0_1), .val (.int (p0_0 &&& (1073741823 : Int32))), .unset, .unset] [])) _
      refine XS.iconst X0.here hx rfl (hb hby at_15) ?_
      have q4 : (bI (¬ ((p0_1 &&& (1 : Int32)) = (0 : Int32)))) = (0 : Int32) := (bI_f (fun q => q hc1))
      exact castTop (g := (mkF m 16 #[.val (.int p0_0), .val (.int p0_1), .val (.int (p0_0 &&& (1073741823 : Int32))), .unset, .unset] [(.int (0 : Int32))])) (g' := (mkF m 16 #[.val (.int p0_0), .val (.int p0_1), .val (.int (p0_0 &&& (1073741823 : Int32))), .unset, .unset] [(.int (bI (¬ ((p0_1 &&& (1 : Int32)) = (0 : Int32)))))])) (by simp only [q4]) k
    · show Steps p.tables e below (s₁.setTop (mkF m 8 #[.val (.int p0_0), .val (.int p0_1), .val (.int (p0_0 &&& (1073741823 : Int32))), .unset, .unset] [(.int (p0_1 &&& (1 : Int32)))])) _
      refine XS.ifNo X0.here hx rfl (hb hby at_8) rfl ((if0 _ _).trans (feq hc1).1) ?_
      show Steps p.tables e below (s₁.setTop (mkF m 11 #[.val (.int p0_0), .val (.int p0_1), .val (.int (p0_0 &&& (1073741823 : Int32))), .unset, .unset] [])) _
      refine XS.iconst X0.here hx rfl (hb hby at_11) ?_
      show Steps p.tables e below (s₁.setTop (mkF m 12 #[.val (.int p0_0), .val (.int p0_1), .val (.int (p0_0 &&& (1073741823 : Int32))), .unset, .unset] [(.int (1 : Int32))])) _
      refine XS.goto X0.here hx rfl (pc0 := 12) (pc' := 16) rfl (hb hby at_12) (by decide) (by decide) ?_
      have q5 : (bI (¬ ((p0_1 &&& (1 : Int32)) = (0 : Int32)))) = (1 : Int32) := (bI_t hc1)
      exact castTop (g := (mkF m 16 #[.val (.int p0_0), .val (.int p0_1), .val (.int (p0_0 &&& (1073741823 : Int32))), .unset, .unset] [(.int (1 : Int32))])) (g' := (mkF m 16 #[.val (.int p0_0), .val (.int p0_1), .val (.int (p0_0 &&& (1073741823 : Int32))), .unset, .unset] [(.int (bI (¬ ((p0_1 &&& (1 : Int32)) = (0 : Int32)))))])) (by simp only [q5]) k)
  have pre7 : ∀ t, Steps p.tables e below (s₁.setTop (mkF m 21 #[.val (.int p0_0), .val (.int p0_1), .val (.int (p0_0 &&& (1073741823 : Int32))), .val (.int (bI (¬ ((p0_1 &&& (1 : Int32)) = (0 : Int32))))), .unset] [(.int (bI (¬ ((p0_1 &&& (1 : Int32)) = (0 : Int32))))), (.int ((p0_0 &&& (1073741823 : Int32)) * (2 : Int32)))])) t → Steps p.tables e below (s₁.setTop (entryFrame m #[(.int p0_0), (.int p0_1)] maxLocals)) t := fun t k => pre3 t (by
    show Steps p.tables e below (s₁.setTop (mkF m 16 #[.val (.int p0_0), .val (.int p0_1), .val (.int (p0_0 &&& (1073741823 : Int32))), .unset, .unset] [(.int (bI (¬ ((p0_1 &&& (1 : Int32)) = (0 : Int32)))))])) _
    refine XS.istoreN X0.here hx rfl (hb hby at_16) rfl (l' := #[.val (.int p0_0), .val (.int p0_1), .val (.int (p0_0 &&& (1073741823 : Int32))), .val (.int (bI (¬ ((p0_1 &&& (1 : Int32)) = (0 : Int32))))), .unset]) rfl ?_
    show Steps p.tables e below (s₁.setTop (mkF m 17 #[.val (.int p0_0), .val (.int p0_1), .val (.int (p0_0 &&& (1073741823 : Int32))), .val (.int (bI (¬ ((p0_1 &&& (1 : Int32)) = (0 : Int32))))), .unset] [])) _
    refine XS.iloadN X0.here hx rfl (hb hby at_17) rfl ?_
    show Steps p.tables e below (s₁.setTop (mkF m 18 #[.val (.int p0_0), .val (.int p0_1), .val (.int (p0_0 &&& (1073741823 : Int32))), .val (.int (bI (¬ ((p0_1 &&& (1 : Int32)) = (0 : Int32))))), .unset] [(.int (p0_0 &&& (1073741823 : Int32)))])) _
    refine XS.iconst X0.here hx rfl (hb hby at_18) ?_
    show Steps p.tables e below (s₁.setTop (mkF m 19 #[.val (.int p0_0), .val (.int p0_1), .val (.int (p0_0 &&& (1073741823 : Int32))), .val (.int (bI (¬ ((p0_1 &&& (1 : Int32)) = (0 : Int32))))), .unset] [(.int (2 : Int32)), (.int (p0_0 &&& (1073741823 : Int32)))])) _
    refine XS.imul X0.here hx rfl (hb hby at_19) rfl ?_
    show Steps p.tables e below (s₁.setTop (mkF m 20 #[.val (.int p0_0), .val (.int p0_1), .val (.int (p0_0 &&& (1073741823 : Int32))), .val (.int (bI (¬ ((p0_1 &&& (1 : Int32)) = (0 : Int32))))), .unset] [(.int ((p0_0 &&& (1073741823 : Int32)) * (2 : Int32)))])) _
    refine XS.iloadN X0.here hx rfl (hb hby at_20) rfl ?_
    exact k)
  have pre8 : ∀ t, Steps p.tables e below (s₁.setTop (mkF m 29 #[.val (.int p0_0), .val (.int p0_1), .val (.int (p0_0 &&& (1073741823 : Int32))), .val (.int (bI (¬ ((p0_1 &&& (1 : Int32)) = (0 : Int32))))), .unset] [(.int (bI (¬ ((p0_1 &&& (1 : Int32)) = (0 : Int32))))), (.int ((p0_0 &&& (1073741823 : Int32)) * (2 : Int32)))])) t → Steps p.tables e below (s₁.setTop (entryFrame m #[(.int p0_0), (.int p0_1)] maxLocals)) t := fun t k => pre7 t (by
    by_cases hc6 : ¬ ((p0_1 &&& (1 : Int32)) = (0 : Int32))
    · show Steps p.tables e below (s₁.setTop (mkF m 21 #[.val (.int p0_0), .val (.int p0_1), .val (.int (p0_0 &&& (1073741823 : Int32))), .val (.int (bI (¬ ((p0_1 &&& (1 : Int32)) = (0 : Int32))))), .unset] [(.int (bI (¬ ((p0_1 &&& (1 : Int32)) = (0 : Int32))))), (.int ((p0_0 &&& (1073741823 : Int32)) * (2 : Int32)))])) _
      refine XS.ifNo X0.here hx rfl (hb hby at_21) rfl ((if0 _ _).trans (feq (bI_n hc6)).1) ?_
      show Steps p.tables e below (s₁.setTop (mkF m 24 #[.val (.int p0_0), .val (.int p0_1), .val (.int (p0_0 &&& (1073741823 : Int32))), .val (.int (bI (¬ ((p0_1 &&& (1 : Int32)) = (0 : Int32))))), .unset] [(.int ((p0_0 &&& (1073741823 : Int32)) * (2 : Int32)))])) _
      refine XS.iconst X0.here hx rfl (hb hby at_24) ?_
      show Steps p.tables e below (s₁.setTop (mkF m 25 #[.val (.int p0_0), .val (.int p0_1), .val (.int (p0_0 &&& (1073741823 : Int32))), .val (.int (bI (¬ ((p0_1 &&& (1 : Int32)) = (0 : Int32))))), .unset] [(.int (1 : Int32)), (.int ((p0_0 &&& (1073741823 : Int32)) * (2 : Int32)))])) _
      refine XS.goto X0.here hx rfl (pc0 := 25) (pc' := 29) rfl (hb hby at_25) (by decide) (by decide) ?_
      have q9 : (bI (¬ ((p0_1 &&& (1 : Int32)) = (0 : Int32)))) = (1 : Int32) := (bI_t hc6)
      exact castTop (g := (mkF m 29 #[.val (.int p0_0), .val (.int p0_1), .val (.int (p0_0 &&& (1073741823 : Int32))), .val (.int (bI (¬ ((p0_1 &&& (1 : Int32)) = (0 : Int32))))), .unset] [(.int (1 : Int32)), (.int ((p0_0 &&& (1073741823 : Int32)) * (2 : Int32)))])) (g' := (mkF m 29 #[.val (.int p0_0), .val (.int p0_1), .val (.int (p0_0 &&& (1073741823 : Int32))), .val (.int (bI (¬ ((p0_1 &&& (1 : Int32)) = (0 : Int32))))), .unset] [(.int (bI (¬ ((p0_1 &&& (1 : Int32)) = (0 : Int32))))), (.int ((p0_0 &&& (1073741823 : Int32)) * (2 : Int32)))])) (by simp only [q9]) k
    · show Steps p.tables e below (s₁.setTop (mkF m 21 #[.val (.int p0_0), .val (.int p0_1), .val (.int (p0_0 &&& (1073741823 : Int32))), .val (.int (bI (¬ ((p0_1 &&& (1 : Int32)) = (0 : Int32))))), .unset] [(.int (bI (¬ ((p0_1 &&& (1 : Int32)) = (0 : Int32))))), (.int ((p0_0 &&& (1073741823 : Int32)) * (2 : Int32)))])) _
      refine XS.ifYes X0.here hx rfl (pc0 := 21) (pc' := 28) rfl (hb hby at_21) rfl ((if0 _ _).trans (teq (bI_f hc6)).1) (by decide) (by decide) ?_
      show Steps p.tables e below (s₁.setTop (mkF m 28 #[.val (.int p0_0), .val (.int p0_1), .val (.int (p0_0 &&& (1073741823 : Int32))), .val (.int (bI (¬ ((p0_1 &&& (1 : Int32)) = (0 : Int32))))), .unset] [(.int ((p0_0 &&& (1073741823 : Int32)) * (2 : Int32)))])) _
      refine XS.iconst X0.here hx rfl (hb hby at_28) ?_
      have q10 : (bI (¬ ((p0_1 &&& (1 : Int32)) = (0 : Int32)))) = (0 : Int32) := (bI_f hc6)
      exact castTop (g := (mkF m 29 #[.val (.int p0_0), .val (.int p0_1), .val (.int (p0_0 &&& (1073741823 : Int32))), .val (.int (bI (¬ ((p0_1 &&& (1 : Int32)) = (0 : Int32))))), .unset] [(.int (0 : Int32)), (.int ((p0_0 &&& (1073741823 : Int32)) * (2 : Int32)))])) (g' := (mkF m 29 #[.val (.int p0_0), .val (.int p0_1), .val (.int (p0_0 &&& (1073741823 : Int32))), .val (.int (bI (¬ ((p0_1 &&& (1 : Int32)) = (0 : Int32))))), .unset] [(.int (bI (¬ ((p0_1 &&& (1 : Int32)) = (0 : Int32))))), (.int ((p0_0 &&& (1073741823 : Int32)) * (2 : Int32)))])) (by simp only [q10]) k)
  obtain ⟨_, _, ⟨T11, L11, k11, n11⟩, -, X11, ⟨Lc11, hQ11, l11, y11, z11⟩, st11⟩ := Jvm.LawKit.callS X0 hx (y := (⟨"com/example/regista/regista/BooleanAutomaton", "marked", "(I)Z"⟩ : MethodName)) hown (mvT hZ (hW 1 _ rfl)) (mvT hZ (hW 2 _ rfl)) (mvT hZ (hW 3 _ rfl)) (mvT hZ (hW 4 _ rfl)) (by decide) (backOf (W := 0) (rm1 l Z a0 hw [] (((p0_0 &&& (1073741823 : Int32)) * (2 : Int32)) + (bI (¬ ((p0_1 &&& (1 : Int32)) = (0 : Int32))))) h0 n0 Z0 ) hZ (hW 4 _ rfl) (hW 3 _ rfl) (by decide) (by decide)) (g := (mkF m 34 #[.val (.int p0_0), .val (.int p0_1), .val (.int (p0_0 &&& (1073741823 : Int32))), .val (.int (bI (¬ ((p0_1 &&& (1 : Int32)) = (0 : Int32))))), .val (.int (((p0_0 &&& (1073741823 : Int32)) * (2 : Int32)) + (bI (¬ ((p0_1 &&& (1 : Int32)) = (0 : Int32))))))] [(.int (((p0_0 &&& (1073741823 : Int32)) * (2 : Int32)) + (bI (¬ ((p0_1 &&& (1 : Int32)) = (0 : Int32))))))])) rfl (by rw [hml]; rfl) (argsL := [(.int (((p0_0 &&& (1073741823 : Int32)) * (2 : Int32)) + (bI (¬ ((p0_1 &&& (1 : Int32)) = (0 : Int32))))))]) (rest := []) (lenOf pd_0 rfl) rfl (by show 2 * 0 + _ ≤ _; exact Nat.le_of_eq rfl) (hb hby at_34) (fun _ _ => ⟨rfl, e0, (by decide : 0 + 0 ≤ _), (by decide : 0 + 0 ≤ _)⟩)
  dsimp only [Pt.U, Pt.locs, Pt.cells, Pt.slots] at X11 l11 y11 z11 st11 hQ11
  subst l11 y11 z11
  obtain ⟨rfl, N11q, e11⟩ := hQ11
  have N12 := Fr.app N0 N11q
  have pre13 : ∀ t, Steps p.tables e below (T11.setTop (mkF m 37 #[.val (.int p0_0), .val (.int p0_1), .val (.int (p0_0 &&& (1073741823 : Int32))), .val (.int (bI (¬ ((p0_1 &&& (1 : Int32)) = (0 : Int32))))), .val (.int (((p0_0 &&& (1073741823 : Int32)) * (2 : Int32)) + (bI (¬ ((p0_1 &&& (1 : Int32)) = (0 : Int32))))))] [(.int (bI (((((p0_0 &&& (1073741823 : Int32)) * (2 : Int32)) + (bI (¬ ((p0_1 &&& (1 : Int32)) = (0 : Int32))))) - ((((p0_0 &&& (1073741823 : Int32)) * (2 : Int32)) + (bI (¬ ((p0_1 &&& (1 : Int32)) = (0 : Int32))))) / (2 : Int32)) * (2 : Int32)) = (1 : Int32))))])) t → Steps p.tables e below (s₁.setTop (entryFrame m #[(.int p0_0), (.int p0_1)] maxLocals)) t := fun t k => pre8 t (by
    show Steps p.tables e below (s₁.setTop (mkF m 29 #[.val (.int p0_0), .val (.int p0_1), .val (.int (p0_0 &&& (1073741823 : Int32))), .val (.int (bI (¬ ((p0_1 &&& (1 : Int32)) = (0 : Int32))))), .unset] [(.int (bI (¬ ((p0_1 &&& (1 : Int32)) = (0 : Int32))))), (.int ((p0_0 &&& (1073741823 : Int32)) * (2 : Int32)))])) _
    refine XS.iadd X0.here hx rfl (hb hby at_29) rfl ?_
    show Steps p.tables e below (s₁.setTop (mkF m 30 #[.val (.int p0_0), .val (.int p0_1), .val (.int (p0_0 &&& (1073741823 : Int32))), .val (.int (bI (¬ ((p0_1 &&& (1 : Int32)) = (0 : Int32))))), .unset] [(.int (((p0_0 &&& (1073741823 : Int32)) * (2 : Int32)) + (bI (¬ ((p0_1 &&& (1 : Int32)) = (0 : Int32))))))])) _
    refine XS.istore X0.here hx rfl (hb hby at_30) rfl (l' := #[.val (.int p0_0), .val (.int p0_1), .val (.int (p0_0 &&& (1073741823 : Int32))), .val (.int (bI (¬ ((p0_1 &&& (1 : Int32)) = (0 : Int32))))), .val (.int (((p0_0 &&& (1073741823 : Int32)) * (2 : Int32)) + (bI (¬ ((p0_1 &&& (1 : Int32)) = (0 : Int32))))))]) rfl ?_
    show Steps p.tables e below (s₁.setTop (mkF m 32 #[.val (.int p0_0), .val (.int p0_1), .val (.int (p0_0 &&& (1073741823 : Int32))), .val (.int (bI (¬ ((p0_1 &&& (1 : Int32)) = (0 : Int32))))), .val (.int (((p0_0 &&& (1073741823 : Int32)) * (2 : Int32)) + (bI (¬ ((p0_1 &&& (1 : Int32)) = (0 : Int32))))))] [])) _
    refine XS.iload X0.here hx rfl (hb hby at_32) rfl ?_
    show Steps p.tables e below (s₁.setTop (mkF m 34 #[.val (.int p0_0), .val (.int p0_1), .val (.int (p0_0 &&& (1073741823 : Int32))), .val (.int (bI (¬ ((p0_1 &&& (1 : Int32)) = (0 : Int32))))), .val (.int (((p0_0 &&& (1073741823 : Int32)) * (2 : Int32)) + (bI (¬ ((p0_1 &&& (1 : Int32)) = (0 : Int32))))))] [(.int (((p0_0 &&& (1073741823 : Int32)) * (2 : Int32)) + (bI (¬ ((p0_1 &&& (1 : Int32)) = (0 : Int32))))))])) _
    refine st11 _ ?_
    exact k)
  have hd14 : (bI (((((p0_0 &&& (1073741823 : Int32)) * (2 : Int32)) + (bI (¬ ((p0_1 &&& (1 : Int32)) = (0 : Int32))))) - ((((p0_0 &&& (1073741823 : Int32)) * (2 : Int32)) + (bI (¬ ((p0_1 &&& (1 : Int32)) = (0 : Int32))))) / (2 : Int32)) * (2 : Int32)) = (1 : Int32))) = (bI (¬ ((p0_1 &&& (1 : Int32)) = (0 : Int32)))) := by
    exact own_fin _ _
  obtain ⟨fs, hr, hrun, hended, hW, hsame⟩ := X11.leave (v := some (.int (1 : Int32))) (fun h => by rw [Bd.returns] at h; cases h)
  refine ⟨_, _, pre13 _ ?_, hrun, hended, _, _, rfl, ?_, ⟨_, rfl⟩, hW, hsame.mono (by decide) (by decide)⟩
  · show Steps p.tables e below (T11.setTop (mkF m 37 #[.val (.int p0_0), .val (.int p0_1), .val (.int (p0_0 &&& (1073741823 : Int32))), .val (.int (bI (¬ ((p0_1 &&& (1 : Int32)) = (0 : Int32))))), .val (.int (((p0_0 &&& (1073741823 : Int32)) * (2 : Int32)) + (bI (¬ ((p0_1 &&& (1 : Int32)) = (0 : Int32))))))] [(.int (bI (((((p0_0 &&& (1073741823 : Int32)) * (2 : Int32)) + (bI (¬ ((p0_1 &&& (1 : Int32)) = (0 : Int32))))) - ((((p0_0 &&& (1073741823 : Int32)) * (2 : Int32)) + (bI (¬ ((p0_1 &&& (1 : Int32)) = (0 : Int32))))) / (2 : Int32)) * (2 : Int32)) = (1 : Int32))))])) _
    refine XS.iloadN X11.here hx rfl (hb hby at_37) rfl ?_
    show Steps p.tables e below (T11.setTop (mkF m 38 #[.val (.int p0_0), .val (.int p0_1), .val (.int (p0_0 &&& (1073741823 : Int32))), .val (.int (bI (¬ ((p0_1 &&& (1 : Int32)) = (0 : Int32))))), .val (.int (((p0_0 &&& (1073741823 : Int32)) * (2 : Int32)) + (bI (¬ ((p0_1 &&& (1 : Int32)) = (0 : Int32))))))] [(.int (bI (¬ ((p0_1 &&& (1 : Int32)) = (0 : Int32))))), (.int (bI (((((p0_0 &&& (1073741823 : Int32)) * (2 : Int32)) + (bI (¬ ((p0_1 &&& (1 : Int32)) = (0 : Int32))))) - ((((p0_0 &&& (1073741823 : Int32)) * (2 : Int32)) + (bI (¬ ((p0_1 &&& (1 : Int32)) = (0 : Int32))))) / (2 : Int32)) * (2 : Int32)) = (1 : Int32))))])) _
    refine XS.icmpNo X11.here hx rfl (hb hby at_38) rfl (teq hd14).2 ?_
    show Steps p.tables e below (T11.setTop (mkF m 41 #[.val (.int p0_0), .val (.int p0_1), .val (.int (p0_0 &&& (1073741823 : Int32))), .val (.int (bI (¬ ((p0_1 &&& (1 : Int32)) = (0 : Int32))))), .val (.int (((p0_0 &&& (1073741823 : Int32)) * (2 : Int32)) + (bI (¬ ((p0_1 &&& (1 : Int32)) = (0 : Int32))))))] [])) _
    refine XS.iconst X11.here hx rfl (hb hby at_41) ?_
    show Steps p.tables e below (T11.setTop (mkF m 42 #[.val (.int p0_0), .val (.int p0_1), .val (.int (p0_0 &&& (1073741823 : Int32))), .val (.int (bI (¬ ((p0_1 &&& (1 : Int32)) = (0 : Int32))))), .val (.int (((p0_0 &&& (1073741823 : Int32)) * (2 : Int32)) + (bI (¬ ((p0_1 &&& (1 : Int32)) = (0 : Int32))))))] [(.int (1 : Int32))])) _
    refine XS.goto X11.here hx rfl (pc0 := 42) (pc' := 46) rfl (hb hby at_42) (by decide) (by decide) ?_
    show Steps p.tables e below (T11.setTop (mkF m 46 #[.val (.int p0_0), .val (.int p0_1), .val (.int (p0_0 &&& (1073741823 : Int32))), .val (.int (bI (¬ ((p0_1 &&& (1 : Int32)) = (0 : Int32))))), .val (.int (((p0_0 &&& (1073741823 : Int32)) * (2 : Int32)) + (bI (¬ ((p0_1 &&& (1 : Int32)) = (0 : Int32))))))] [(.int (1 : Int32))])) _
    exact retN X11 hx (t := .boolean) Bd.returns (by simp) (hb hby at_46) hr
  · show Q0 Z p0_0 p0_1 h0 n0 _ T11.heap _
    rw [e11]
    exact ⟨rfl, N12⟩
set_option maxRecDepth 65536 in
set_option maxHeartbeats 40000000 in
theorem comes_1 {Post : Tables → Env → Array Value → State → Outcome → State → Prop} (hpost : ∀ tb e args s v u, (limb_1_1.after args s (.returned v) u = true ∧ limb_1_2.after args s (.returned v) u = true ∧ True) → FrameEnd s (.returned v) u (Jvm.fieldLocs frame_1_writes args s ++ Jvm.arrayLocs frame_1_arrays args s ++ Jvm.staticLocs frame_1_statics s) 0 0 → Post tb e args s (.returned v) u) :
    ArmFor flags0 classFile x code maxLocals ret World_1 tables_1 room_1 Calls_1 rest_1 Pre_1 Post := by
  intro l hfl _ _ p e ha hc hk s m args below hf hA hF happ hP
  obtain ⟨hcalls, hrest, hpre⟩ := hP
  obtain ⟨-, -, -, hnamed, -, -, -, hat⟩ := (Spec.applies_iff hf).mp happ
  obtain ⟨hg, hn⟩ := and_e (Cond.before_iff.mp (show (Jvm.Cond.and given_1 narrow_1).before args s = true from hpre))
  obtain ⟨g1, g2⟩ := and_e hg
  obtain ⟨g3, g4⟩ := and_e g2
  obtain ⟨w0, w1, rfl⟩ : ∃ w0 w1 : Value, args = #[w0, w1] := by
    have hs : args.size = 2 := by simpa [Cond.value, given_1] using g1
    obtain ⟨L⟩ := args
    match L, hs with
    | [w0, w1], _ => exact ⟨w0, w1, rfl⟩
  have hw := fun d (hd : d ∈ tables_1) => atoms_spec (ws := Jvm.Cond.code x code maxLocals ret :: tables_1) hat d (List.mem_cons_of_mem _ hd)
  have hfit : Fit s := fun {y c} hc i hi => by
    obtain ⟨ha, rfl⟩ := Array.getElem?_eq_some_iff.mp hc
    have q := List.all_eq_true.mp ((Array.all_eq_true_iff_forall_mem.mp hF) _ (Array.getElem_mem ha)) i (List.mem_range.mpr hi)
    simpa [Array.getElem?_eq_getElem hi] using q
  obtain ⟨i0, ei0⟩ := is_v g3
  obtain rfl : w0 = (.int i0) := Option.some.inj ei0
  obtain ⟨i1, ei1⟩ := is_v g4
  obtain rfl : w1 = (.int i1) := Option.some.inj ei1
  obtain ⟨n, o, h1, h2, h3, _, L, rfl, ⟨rfl, N⟩, hq⟩ := rm0 l s _ hw tables_1 i0 i1 s.heap s.heap.size (Nat.le_refl _)  p e ha hc hk s m _ below hf ((Spec.applies_iff_loose hf).mp happ).1 ⟨rfl, State.Warmed39.refl s, rfl⟩ trivial
  refine ⟨n, _, h1, h2, h3, hpost _ _ _ _ _ _ ⟨Cond.after_iff.mpr rfl, Cond.after_iff.mpr (eq_i res_at (Term.int_eval (1)) rfl), trivial⟩ ⟨hq.1, hq.2.1, (hq.2.2.sift fun y hy => Or.inr (N y hy)).mono (by decide) (by decide)⟩⟩
theorem main_1_1 : Claimed_1_1 := comes_1 fun _ _ _ _ _ _ h hF => ⟨h.1, hF⟩
theorem main_1_2 : Claimed_1_2 := comes_1 fun _ _ _ _ _ _ h hF => ⟨h.2.1, hF⟩
end Jvm.Pilot.@@N@@
namespace Jvm.Pilot.@@N@@
open Jvm Jvm.ClassFile Sem Op Lib Jvm.Free Jvm.Stand Jvm.Pilot.@@N@@.Jvm.D
/-! MADE BY PROGRAM (witnessworld.py) out of the Statement's table words and the real class files: 9 classes; the members and pool entries that the words name. The judged class is class 1, her method 1. -/
namespace start1
open Jvm.ClassFile
def u (s : String) : CpInfo := .utf8 (stringToUtf16 s)
/-- a pool by its gaps: so many unusable entries, then the entry; so many at the end -/
def gap : Nat → List CpInfo → List CpInfo
  | 0, r => r
  | n + 1, r => .unusable :: gap n r
def poolList (es : List (Nat × CpInfo)) (last : Nat) : List CpInfo := es.foldr (fun e r => gap e.1 (e.2 :: r)) (gap last [])
def pool (es : List (Nat × CpInfo)) (last : Nat) : Array CpInfo := ⟨poolList es last⟩
def fileOf (pool : Array CpInfo) (this : Nat) (attrs : Array Attribute := #[]) (ms : Array MethodInfo := #[]) (fl : Nat := 33) (sup : Nat := 0) (ifs : Array Nat := #[]) (fds : Array FieldInfo := #[]) : ClassFile where
  minorVersion := 0
  majorVersion := 65
  constantPool := pool
  accessFlags := fl
  thisClass := this
  superClass := sup
  interfaces := ifs
  fields := fds
  methods := ms
  attributes := attrs
def plain (name : String) (sup : Option ClassId) : Class where
  name := name
  kind := .ordinary
  loader := none
  accessFlags := 33
  super := sup
  interfaces := #[]
  cf := none
  fields := #[]
  methods := #[]
  instanceTypes := #[]
  staticTypes := #[]
  resolved := #[]
  callSites := []
  init := .initialized
  statics := none
  mirror := none

def pool0 : Array CpInfo := pool [(5, u "<init>"), (0, u "()V"), (1, .class_ 10), (1, u "java/lang/Object")] 113

def k0m0 : Method := { name := "<init>", desc := "()V", sig := { parameters := [], returnType := none }, accessFlags := 1, code := none }
/-- java/lang/Object -/
def k0 : Class := { plain "java/lang/Object" none with
  accessFlags := 33
  interfaces := #[]
  cf := some (fileOf pool0 8 #[] #[{ accessFlags := 1, nameIndex := 5, descriptorIndex := 6, attributes := #[] }] 33 0 #[] #[])
  fields := #[]
  methods := #[k0m0]
  instanceTypes := #[]
  staticTypes := #[]
  resolved := Array.replicate 124 none
  statics := none }

def pool1 : Array CpInfo := pool [(2, .class_ 4), (1, u "java/lang/Object"), (0, u "<init>"), (0, u "()V"), (0, .integer 1073741823), (0, .methodref 9 10), (0, .class_ 11), (0, .nameAndType 12 13), (0, u "com/example/regista/regista/BooleanAutomaton"), (0, u "marked"), (0, u "(I)Z"), (0, .class_ 15), (0, u "com/example/regista/regista/BooleanAutomatonMarkedPinLaw"), (2, u "law"), (0, u "(II)Z")] 3

def k1m0 : Method := { name := "<init>", desc := "()V", sig := { parameters := [], returnType := none }, accessFlags := 2, code := none }
def k1c1 : Code := { maxStack := 2, maxLocals := 5, code := code, exceptionTable := #[], attributes := #[] }
def k1m1 : Method := { name := "law", desc := "(II)Z", sig := { parameters := [.int, .int], returnType := some .boolean }, accessFlags := 9, code := some k1c1 }
/-- com/example/regista/regista/BooleanAutomatonMarkedPinLaw -/
def k1 : Class := { plain "com/example/regista/regista/BooleanAutomatonMarkedPinLaw" (some 0) with
  accessFlags := 49
  interfaces := #[]
  cf := some (fileOf pool1 14 #[] #[{ accessFlags := 2, nameIndex := 5, descriptorIndex := 6, attributes := #[] }, { accessFlags := 9, nameIndex := 18, descriptorIndex := 19, attributes := #[] }] 49 2 #[] #[])
  fields := #[]
  methods := #[k1m0, k1m1]
  instanceTypes := #[]
  staticTypes := #[]
  resolved := Array.replicate 23 none
  statics := none }

def pool2 : Array CpInfo := pool [(2, .class_ 4), (1, u "java/lang/Object"), (3, .class_ 10), (1, u "com/example/regista/regista/BooleanAutomaton"), (0, u "alphabet"), (0, u "Lcom/example/regista/regista/TransducerAlphabet;"), (2, u "successors"), (0, u "[[[I"), (28, u "TABLE_LIMIT"), (0, u "I"), (12, u "marked"), (0, u "(I)Z")] 20

def k2c0 : Code := { maxStack := 2, maxLocals := 1, code := prog_2_method_11_code, exceptionTable := #[], attributes := #[] }
def k2m0 : Method := { name := "marked", desc := "(I)Z", sig := { parameters := [.int], returnType := some .boolean }, accessFlags := 8, code := some k2c0 }
/-- com/example/regista/regista/BooleanAutomaton -/
def k2 : Class := { plain "com/example/regista/regista/BooleanAutomaton" (some 0) with
  accessFlags := 32
  interfaces := #[]
  cf := some (fileOf pool2 8 #[] #[{ accessFlags := 8, nameIndex := 59, descriptorIndex := 60, attributes := #[] }] 32 2 #[] #[{ accessFlags := 24, nameIndex := 45, descriptorIndex := 46, attributes := #[] }, { accessFlags := 18, nameIndex := 11, descriptorIndex := 12, attributes := #[] }, { accessFlags := 18, nameIndex := 15, descriptorIndex := 16, attributes := #[] }])
  fields := #[{ name := "TABLE_LIMIT", type := .int, accessFlags := 24, slot := 0, constantValue := 0 }, { name := "alphabet", type := (.object "com/example/regista/regista/TransducerAlphabet"), accessFlags := 18, slot := 0, constantValue := 0 }, { name := "successors", type := (.array (.array (.array .int))), accessFlags := 18, slot := 1, constantValue := 0 }]
  methods := #[k2m0]
  instanceTypes := #[(.object "com/example/regista/regista/TransducerAlphabet"), (.array (.array (.array .int)))]
  staticTypes := #[.int]
  resolved := Array.replicate 81 none
  statics := none }

def pool3 : Array CpInfo := pool [(1, u "java/lang/Cloneable"), (0, .class_ 1), (0, u "java/lang/Object"), (0, .class_ 3)] 3

/-- java/lang/Cloneable -/
def k3 : Class := { plain "java/lang/Cloneable" (some 0) with
  accessFlags := 1537
  interfaces := #[]
  cf := some (fileOf pool3 2 #[] #[] 1537 4 #[] #[])
  fields := #[]
  methods := #[]
  instanceTypes := #[]
  staticTypes := #[]
  resolved := Array.replicate 8 none
  statics := none }

def pool4 : Array CpInfo := pool [(1, u "java/io/Serializable"), (0, .class_ 1), (0, u "java/lang/Object"), (0, .class_ 3)] 3

/-- java/io/Serializable -/
def k4 : Class := { plain "java/io/Serializable" (some 0) with
  accessFlags := 1537
  interfaces := #[]
  cf := some (fileOf pool4 2 #[] #[] 1537 4 #[] #[])
  fields := #[]
  methods := #[]
  instanceTypes := #[]
  staticTypes := #[]
  resolved := Array.replicate 8 none
  statics := none }

/-- the primitive byte -/
def k5 : Class := { plain "byte" none with kind := .primitive 'B', accessFlags := 0x411 }
/-- [B -/
def k6 : Class := { plain "[B" (some 0) with kind := .array 5 .byte, interfaces := #[3, 4], accessFlags := 1041 }

/-- the primitive int -/
def k7 : Class := { plain "int" none with kind := .primitive 'I', accessFlags := 0x411 }
/-- [I -/
def k8 : Class := { plain "[I" (some 0) with kind := .array 7 .int, interfaces := #[3, 4], accessFlags := 1041 }

def heap : Heap := #[]
def classes : Array Class := #[k0, k1, k2, k3, k4, k5, k6, k7, k8]
def interned : List (Array UInt16 × Addr) := []
def slotsUsed : Nat := 0
def theMethod : MethodId := ⟨1, 1⟩
def args0 : Array Value := #[.int 5, .int 3]
def aboutOver (below : List Frame) : State where
  vm := { classes := classes, interned := interned.toArray }
  heap := heap
  slotsUsed := slotsUsed
  threads := #[{ frames := .invoking theMethod args0 :: below }]
def below0 : List Frame := [.native { method := ⟨0, 0⟩, args := #[] }]
def about1 : State := aboutOver below0
def p0 : Program := .bare "" "" ""
def e0 : Env := launch0.env 0 0 0
theorem w_frames : about1.frames = Frame.invoking theMethod args0 :: below0 := rfl
set_option maxRecDepth 65536 in
theorem w_args : argsFit about1.vm theMethod args0 = true := by decide +kernel
set_option maxRecDepth 65536 in
theorem w_heap : heapFits about1 = true := by decide +kernel
set_option maxRecDepth 65536 in
theorem w_runnable : about1.curStatus? = some .runnable := by decide +kernel
set_option maxRecDepth 65536 in
theorem w_alone : about1.alone = true := by decide +kernel
set_option maxRecDepth 65536 in
theorem w_named : about1.methodNamed? x = some theMethod := by decide +kernel
set_option maxRecDepth 65536 in
theorem w_hears : about1.hears theMethod below0 = true := by decide +kernel
set_option maxRecDepth 65536 in
theorem w_ripe : about1.ripe theMethod args0 below0 = true := by decide +kernel
theorem w_running : about1.status = .running := rfl
set_option maxRecDepth 65536 in
theorem w_room : about1.hasRoom e0.platform room_1 = true :=
  launch0.hasRoom_least _ room_1 (by decide +kernel) (by decide +kernel) (by decide +kernel) (by decide +kernel) (by decide +kernel) (by decide +kernel)
theorem allAtoms_all (ts : List Jvm.Cond) (a : Array Jvm.Value) (st : Jvm.State) : (allAtoms ts).before a st = ts.all (fun c => c.before a st) := by
  induction ts with
  | nil => rfl
  | cons c t ih =>
    show (Jvm.Cond.and c (allAtoms t)).before a st = _
    rw [Jvm.Cond.before_and, ih, List.all_cons]
def words1 : List Jvm.Cond := Jvm.Cond.code x code maxLocals ret :: tables_1
/-- a 'code' word, met by the world's own term for the bytes: nothing is compared byte by byte -/
theorem code_word {y : MethodName} {bytes : ByteArray} {mx : Nat} {rt : Option FieldType} {a : Array Value} {s : State} {m : MethodId} {meth : Method} {c : Code} (h1 : s.methodNamed? y = some m) (h2 : s.vm.method? m = some meth) (h3 : meth.code = some c) (h4 : c.code = bytes)
    (h5 : (c.maxLocals == mx && c.exceptionTable.isEmpty && decide (c.maxStack ≤ mostOperands) && decide (meth.sig.returnType = rt) && !meth.locks && decide (parseMethodDescriptor y.desc = some meth.sig)) = true) : (Jvm.Cond.code y bytes mx rt).before a s = true := by
  simp only [Bool.and_eq_true, beq_iff_eq, Bool.not_eq_true', decide_eq_true_eq] at h5
  obtain ⟨⟨⟨⟨⟨g1, g2⟩, g3⟩, g4⟩, g5⟩, g6⟩ := h5
  simp [Cond.before, Cond.holds, Cond.value, h1, h2, h3, h4, g1, g2, g3, g4, g5, g6]
def isCode : Jvm.Cond → Bool
  | .code _ _ _ _ => true
  | _ => false
theorem all_split {L : List Jvm.Cond} {P : Jvm.Cond → Bool} (h1 : L.all (fun c => isCode c || P c) = true) (h2 : ∀ c ∈ L.filter isCode, P c = true) : L.all P = true := by
  refine List.all_eq_true.mpr fun c hc => ?_
  have h := List.all_eq_true.mp h1 c hc
  rcases Bool.eq_false_or_eq_true (isCode c) with hi | hi
  · exact h2 c (List.mem_filter.mpr ⟨hc, hi⟩)
  · simpa [hi] using h
set_option maxRecDepth 65536 in
theorem w_c0 : (Jvm.Cond.code x code maxLocals ret).before args0 about1 = true := code_word (m := ⟨1, 1⟩) (meth := k1m1) (c := k1c1) (by decide +kernel) rfl rfl rfl (by decide +kernel)
set_option maxRecDepth 65536 in
theorem w_c1 : (Jvm.Cond.code ({ cls := "com/example/regista/regista/BooleanAutomaton", name := "marked", desc := "(I)Z" } : Jvm.MethodName) prog_2_method_11_code (1 : Nat) (Option.some Jvm.ClassFile.FieldType.boolean)).before args0 about1 = true := code_word (m := ⟨2, 0⟩) (meth := k2m0) (c := k2c0) (by decide +kernel) rfl rfl rfl (by decide +kernel)
def codes1 : List Jvm.Cond := [Jvm.Cond.code x code maxLocals ret, Jvm.Cond.code ({ cls := "com/example/regista/regista/BooleanAutomaton", name := "marked", desc := "(I)Z" } : Jvm.MethodName) prog_2_method_11_code (1 : Nat) (Option.some Jvm.ClassFile.FieldType.boolean)]
set_option maxRecDepth 65536 in
theorem codes_eq : words1.filter isCode = codes1 := rfl
theorem w_codes : ∀ c ∈ words1.filter isCode, c.before args0 about1 = true := by
  rw [codes_eq]
  intro c hc
  simp only [codes1, List.mem_cons, List.not_mem_nil, or_false] at hc
  rcases hc with rfl | rfl
  · exact w_c0
  · exact w_c1
set_option maxRecDepth 65536 in
theorem w_t1 : words1.all (fun c => isCode c || c.before args0 about1) = true := by decide +kernel
theorem w_tables : (allAtoms (Jvm.Cond.code x code maxLocals ret :: tables_1)).before args0 about1 = true := by
  rw [allAtoms_all]
  show words1.all (fun c => c.before args0 about1) = true
  refine all_split ?_ w_codes
  rw [w_t1]
set_option maxRecDepth 65536 in
theorem w_case : (Jvm.Cond.and given_1 narrow_1).before args0 about1 = true := by decide +kernel
theorem w_applies : (headSpec (Jvm.Cond.code x code maxLocals ret :: tables_1) room_1).applies x e0.platform about1 = true :=
  (Spec.applies_iff w_frames).mpr ⟨w_running, w_runnable, w_alone, w_named, w_hears, w_ripe, w_room, w_tables⟩
theorem atStart : AtStart classFile x code maxLocals ret World_1 tables_1 room_1 Calls_1 rest_1 Pre_1 launch0 p0 e0 about1 theMethod args0 below0 :=
  ⟨lists_1, trivial, launch0.admits_env _ _ _, launch0.least_env, fairChoices_fair.cas, fairChoices_fair.clock, w_frames, w_args, w_heap, w_applies, trivial, trivial, w_case⟩
end start1
theorem witness_1 : WitnessClaimed_1 := ⟨start1.p0, start1.e0, start1.about1, start1.theMethod, start1.args0, start1.below0, start1.atStart⟩
end Jvm.Pilot.@@N@@
