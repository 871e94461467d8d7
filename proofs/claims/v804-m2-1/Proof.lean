import JvmDerived
import JvmDerived.Pilot.@@N@@Statement
import JvmDerived.Pilot.@@N@@Code
set_option linter.unusedVariables false
set_option linter.unusedSimpArgs false
namespace Jvm.RoadKit
open Sem ClassFile Op Lib Jvm.Stand Jvm.Free Jvm.LawKit
section New
variable {p : Program} {l : Launch} {e : Env} {R : Room} {s : State} {m : MethodId} {args : Array Value} {below : List Frame} {meth : Method} {c : Code} {T : State} {locs : List Loc} {cells slots : Nat}
theorem retI (X : Stand p l e R s m args below meth c T locs cells slots) (hx : p.tables.exec = Jvm.exec) {pc : Nat} {Ls : Array Slot} {z : Int32} {rest : List Value} (hret : meth.sig.returnType = some .int) (hd : decode c.code pc = .ok (.ireturn, 1)) {fs : List Frame}
    (hl : ∀ (f : JFrame) (acts : List Action), f.method = m → f.locked = none → f.entered = [] → (doReturn e (T.setTop f) acts (some (.int z))).1 = T.setFrames fs) : Steps p.tables e below (T.setTop (mkF m pc Ls (.int z :: rest))) (T.setFrames fs) := by
  have hm' : T.vm.method? m = some meth := X.method'
  have hn : narrow .int (.int z) = .int z := rfl
  show Steps p.tables e below (T.setTop { method := m, pc := pc, locals := Ls, stack := _ :: rest, locked := none }) _
  jvm_step X.here [X.here.top, hx, hd, hm', hret, hn]
  first | (intro acts; rw [hl _ acts rfl rfl rfl]) | rw [hl _ _ rfl rfl rfl]
  exact Steps.refl _
end New
end Jvm.RoadKit
namespace Jvm.Pilot.@@N@@
open Jvm Jvm.ClassFile Sem Op Lib Jvm.Free Jvm.Stand Jvm.LawKit Jvm.RoadKit Bundle Jvm.Pilot.@@N@@.Jvm.D
/-- a boolean of the law's, as the int that the machine holds -/
def bI (P : Prop) [Decidable P] : Int32 := if P then 1 else 0
theorem bI_t {P : Prop} [Decidable P] (h : P) : bI P = (1 : Int32) := if_pos h
theorem bI_f {P : Prop} [Decidable P] (h : ¬ P) : bI P = (0 : Int32) := if_neg h
theorem bI_n {P : Prop} [Decidable P] (h : P) : ¬ (bI P = (0 : Int32)) := by rw [bI_t h]; decide
theorem bI_iff {P Q : Prop} [Decidable P] [Decidable Q] (h : P ↔ Q) : bI P = bI Q := by
  by_cases p : P
  · rw [bI_t p, bI_t (h.mp p)]
  · rw [bI_f p, bI_f fun q => p (h.mpr q)]
theorem bI_nar {P : Prop} [Decidable P] : nar .boolean (bI P) = bI P := by
  by_cases p : P
  · rw [bI_t p]; rfl
  · rw [bI_f p]; rfl
theorem own_feq {a : Term} {k : Int32} {args : Array Value} {s : State} (h : (Jvm.Cond.eq a (.int k)).value args s none s [] = some true) : a.eval args s none [] s = some (.int k) := by
  obtain ⟨x, y, hx, hy, -, kin⟩ := cmp_v (Or.inl h)
  have e : y = .int k := (Option.some.inj (hy.symm.trans (Term.int_eval k)))
  subst e
  obtain ⟨z, rfl⟩ := kin
  have q : (Jvm.Cond.eq a (.int k)).value args s none s [] = some (decide (z = k)) := by simp [Cond.value, hx, hy]
  rw [q] at h
  have e : z = k := of_decide_eq_true (Option.some.inj h)
  rw [hx, e]
theorem d1_0 : decode prog_34_method_4_code 0 = .ok (.iload_n 0, 1) := by decide +kernel
theorem d1_1 : decode prog_34_method_4_code 1 = .ok (.ifCond .eq 9, 3) := by decide +kernel
theorem d1_4 : decode prog_34_method_4_code 4 = .ok (.getstatic 10, 3) := by decide +kernel
theorem d1_7 : decode prog_34_method_4_code 7 = .ok (.goto 6, 3) := by decide +kernel
theorem d1_13 : decode prog_34_method_4_code 13 = .ok (.areturn, 1) := by decide +kernel
theorem pn_1 : plainName "com/example/regista/regista/Label$Truth" = true := by first | (simp [plainName, overriddenIn]; done) | decide +kernel
theorem ef_1_rm1t (m : MethodId)  : entryFrame m #[(.int (1 : Int32))] 1 = mkF m 0 #[.val (.int (1 : Int32))] [] := by first | (simp [entryFrame, mkF, argsToLocals, Value.category]; done) | rfl
def Q1t (Z : State) (w1_TRUE : Addr) (h0 : Heap) (n0 : Nat) (v : Option Value) (h : Heap) (L : List Loc) : Prop := v = some (.ref w1_TRUE) ∧ Fr n0 L ∧ h = h0
set_option maxRecDepth 65536 in
set_option maxHeartbeats 40000000 in
theorem rm1t (l : Launch) (Z : State) (a0 : Array Value) (hw : ∀ d ∈ tables_1, d.before a0 Z = true) (ws : List Jvm.Cond) (w1_TRUE : Addr) (h0 : Heap) (n0 : Nat) (Z0 : n0 ≤ h0.size) (O0 : Old Z n0 h0) (S_TRUE : Sta Z Z.heap "com/example/regista/regista/Label$Truth" "TRUE" "Lcom/example/regista/regista/Label$Truth;" (.ref w1_TRUE)) :
    MetFree l (⟨"com/example/regista/regista/Label$Truth", "of", "(Z)Lcom/example/regista/regista/Label$Truth;"⟩ : MethodName) (head1 (Jvm.Cond.code (⟨"com/example/regista/regista/Label$Truth", "of", "(Z)Lcom/example/regista/regista/Label$Truth;"⟩ : MethodName) prog_34_method_4_code 1 (some (.object "com/example/regista/regista/Label$Truth")) :: ws) ({ frames := 0, cells := 0, slots := 0, locals := 0 } : Room)) (fun a U => a = #[(.int (1 : Int32))] ∧ Z.Warmed39 U.vm ∧ U.heap = h0) (fun _ _ _ _ _ => True) (fun _ U o U' => ∃ v L, o = .returned v ∧ Q1t Z w1_TRUE h0 n0 v U'.heap L ∧ FrameEnd U o U' L ({ frames := 0, cells := 0, slots := 0, locals := 0 } : Room).cells ({ frames := 0, cells := 0, slots := 0, locals := 0 } : Room).slots) := by
  refine MetFree.of_bodySF (plainFor_of_name pn_1) hisR ?_
  intro p e s m args below meth c s₁ Bd hml0 hP hK
  obtain ⟨rfl, hZ, hh⟩ := hP
  have hW : ∀ (i : Nat) (d : Jvm.Cond), tables_1[i]? = some d → d.before a0 Z = true := fun i d h => hw d (List.mem_of_getElem? h)
  have hx := Bd.exec
  have hby := Bd.bytes
  have hml : c.maxLocals = 1 := hml0
  have hown : s.vm.findClass "com/example/regista/regista/Label$Truth" = some m.cls := findClass_of_methodNamed Bd.named
  have hnm := (name_of_methodNamed Bd.named Bd.method).1
  have X0 : Stand p l e ({ frames := 0, cells := 0, slots := 0, locals := 0 } : Room) s m #[(.int (1 : Int32))] below meth c s₁ [] 0 0 := Stand.of_body Bd
  have e0 : s₁.heap = h0 := by rw [← hh, Bd.state]; rfl
  have N0 := Fr.nil n0
  have pre0 : ∀ t, Steps p.tables e below (s₁.setTop (mkF m 0 #[.val (.int (1 : Int32))] [])) t → Steps p.tables e below (s₁.setTop (entryFrame m #[(.int (1 : Int32))] 1)) t := fun t k => castTop (ef_1_rm1t m ) k
  obtain ⟨T1, X1, e1, st1⟩ := getS2 X0 hx hZ hown (host := "") (Or.inl (hW 6 _ rfl)) Via.refl e0 (S_TRUE.ext O0.2) (g := (mkF m 4 #[.val (.int (1 : Int32))] [])) rfl (hb hby d1_4)
  have pre2 : ∀ t, Steps p.tables e below (T1.setTop (mkF m 7 #[.val (.int (1 : Int32))] [(.ref w1_TRUE)])) t → Steps p.tables e below (s₁.setTop (entryFrame m #[(.int (1 : Int32))] 1)) t := fun t k => pre0 t (by
    show Steps p.tables e below (s₁.setTop (mkF m 0 #[.val (.int (1 : Int32))] [])) _
    refine XS.iloadN X0.here hx rfl (hb hby d1_0) rfl ?_
    show Steps p.tables e below (s₁.setTop (mkF m 1 #[.val (.int (1 : Int32))] [(.int (1 : Int32))])) _
    refine XS.ifNo X0.here hx rfl (hb hby d1_1) rfl ((if0 _ _).trans (feq (by decide : ¬ ((1 : Int32) = (0 : Int32)))).1) ?_
    show Steps p.tables e below (s₁.setTop (mkF m 4 #[.val (.int (1 : Int32))] [])) _
    refine st1 _ ?_
    exact k)
  obtain ⟨fs, hr, hrun, hended, hW, hsame⟩ := X1.leave (v := some (.ref w1_TRUE)) (fun h => by rw [Bd.returns] at h; cases h)
  refine ⟨_, _, pre2 _ ?_, hrun, hended, _, _, rfl, ?_, ⟨_, rfl⟩, hW, hsame.mono (by decide) (by decide)⟩
  · show Steps p.tables e below (T1.setTop (mkF m 7 #[.val (.int (1 : Int32))] [(.ref w1_TRUE)])) _
    refine XS.goto X1.here hx rfl (pc0 := 7) (pc' := 13) rfl (hb hby d1_7) (by decide) (by decide) ?_
    show Steps p.tables e below (T1.setTop (mkF m 13 #[.val (.int (1 : Int32))] [(.ref w1_TRUE)])) _
    jvm_step X1.here [X1.here.top, hx, (hb hby d1_13), X1.method', Bd.returns, Value.isRef, FieldType.isReference]
    first | (intro acts; rw [hr _ acts rfl rfl rfl]) | rw [hr _ _ rfl rfl rfl]
    exact Steps.refl _
  · show Q1t Z w1_TRUE h0 n0 _ T1.heap _
    rw [e1]
    exact ⟨rfl, N0, rfl⟩
theorem d1_10 : decode prog_34_method_4_code 10 = .ok (.getstatic 3, 3) := by decide +kernel
theorem ef_1_rm1f (m : MethodId)  : entryFrame m #[(.int (0 : Int32))] 1 = mkF m 0 #[.val (.int (0 : Int32))] [] := by first | (simp [entryFrame, mkF, argsToLocals, Value.category]; done) | rfl
def Q1f (Z : State) (w1_FALSE : Addr) (h0 : Heap) (n0 : Nat) (v : Option Value) (h : Heap) (L : List Loc) : Prop := v = some (.ref w1_FALSE) ∧ Fr n0 L ∧ h = h0
set_option maxRecDepth 65536 in
set_option maxHeartbeats 40000000 in
theorem rm1f (l : Launch) (Z : State) (a0 : Array Value) (hw : ∀ d ∈ tables_1, d.before a0 Z = true) (ws : List Jvm.Cond) (w1_FALSE : Addr) (h0 : Heap) (n0 : Nat) (Z0 : n0 ≤ h0.size) (O0 : Old Z n0 h0) (S_FALSE : Sta Z Z.heap "com/example/regista/regista/Label$Truth" "FALSE" "Lcom/example/regista/regista/Label$Truth;" (.ref w1_FALSE)) :
    MetFree l (⟨"com/example/regista/regista/Label$Truth", "of", "(Z)Lcom/example/regista/regista/Label$Truth;"⟩ : MethodName) (head1 (Jvm.Cond.code (⟨"com/example/regista/regista/Label$Truth", "of", "(Z)Lcom/example/regista/regista/Label$Truth;"⟩ : MethodName) prog_34_method_4_code 1 (some (.object "com/example/regista/regista/Label$Truth")) :: ws) ({ frames := 0, cells := 0, slots := 0, locals := 0 } : Room)) (fun a U => a = #[(.int (0 : Int32))] ∧ Z.Warmed39 U.vm ∧ U.heap = h0) (fun _ _ _ _ _ => True) (fun _ U o U' => ∃ v L, o = .returned v ∧ Q1f Z w1_FALSE h0 n0 v U'.heap L ∧ FrameEnd U o U' L ({ frames := 0, cells := 0, slots := 0, locals := 0 } : Room).cells ({ frames := 0, cells := 0, slots := 0, locals := 0 } : Room).slots) := by
  refine MetFree.of_bodySF (plainFor_of_name pn_1) hisR ?_
  intro p e s m args below meth c s₁ Bd hml0 hP hK
  obtain ⟨rfl, hZ, hh⟩ := hP
  have hW : ∀ (i : Nat) (d : Jvm.Cond), tables_1[i]? = some d → d.before a0 Z = true := fun i d h => hw d (List.mem_of_getElem? h)
  have hx := Bd.exec
  have hby := Bd.bytes
  have hml : c.maxLocals = 1 := hml0
  have hown : s.vm.findClass "com/example/regista/regista/Label$Truth" = some m.cls := findClass_of_methodNamed Bd.named
  have hnm := (name_of_methodNamed Bd.named Bd.method).1
  have X0 : Stand p l e ({ frames := 0, cells := 0, slots := 0, locals := 0 } : Room) s m #[(.int (0 : Int32))] below meth c s₁ [] 0 0 := Stand.of_body Bd
  have e0 : s₁.heap = h0 := by rw [← hh, Bd.state]; rfl
  have N0 := Fr.nil n0
  have pre0 : ∀ t, Steps p.tables e below (s₁.setTop (mkF m 0 #[.val (.int (0 : Int32))] [])) t → Steps p.tables e below (s₁.setTop (entryFrame m #[(.int (0 : Int32))] 1)) t := fun t k => castTop (ef_1_rm1f m ) k
  obtain ⟨T1, X1, e1, st1⟩ := getS2 X0 hx hZ hown (host := "") (Or.inl (hW 4 _ rfl)) Via.refl e0 (S_FALSE.ext O0.2) (g := (mkF m 10 #[.val (.int (0 : Int32))] [])) rfl (hb hby d1_10)
  have pre2 : ∀ t, Steps p.tables e below (T1.setTop (mkF m 13 #[.val (.int (0 : Int32))] [(.ref w1_FALSE)])) t → Steps p.tables e below (s₁.setTop (entryFrame m #[(.int (0 : Int32))] 1)) t := fun t k => pre0 t (by
    show Steps p.tables e below (s₁.setTop (mkF m 0 #[.val (.int (0 : Int32))] [])) _
    refine XS.iloadN X0.here hx rfl (hb hby d1_0) rfl ?_
    show Steps p.tables e below (s₁.setTop (mkF m 1 #[.val (.int (0 : Int32))] [(.int (0 : Int32))])) _
    refine XS.ifYes X0.here hx rfl (pc0 := 1) (pc' := 10) rfl (hb hby d1_1) rfl ((if0 _ _).trans (teq (by decide : (0 : Int32) = (0 : Int32))).1) (by decide) (by decide) ?_
    show Steps p.tables e below (s₁.setTop (mkF m 10 #[.val (.int (0 : Int32))] [])) _
    refine st1 _ ?_
    exact k)
  obtain ⟨fs, hr, hrun, hended, hW, hsame⟩ := X1.leave (v := some (.ref w1_FALSE)) (fun h => by rw [Bd.returns] at h; cases h)
  refine ⟨_, _, pre2 _ ?_, hrun, hended, _, _, rfl, ?_, ⟨_, rfl⟩, hW, hsame.mono (by decide) (by decide)⟩
  · show Steps p.tables e below (T1.setTop (mkF m 13 #[.val (.int (0 : Int32))] [(.ref w1_FALSE)])) _
    jvm_step X1.here [X1.here.top, hx, (hb hby d1_13), X1.method', Bd.returns, Value.isRef, FieldType.isReference]
    first | (intro acts; rw [hr _ acts rfl rfl rfl]) | rw [hr _ _ rfl rfl rfl]
    exact Steps.refl _
  · show Q1f Z w1_FALSE h0 n0 _ T1.heap _
    rw [e1]
    exact ⟨rfl, N0, rfl⟩
theorem pd_0 : parseMethodDescriptor "(Z)Lcom/example/regista/regista/Label$Truth;" = some ⟨[.boolean], some (.object "com/example/regista/regista/Label$Truth")⟩ := by decide +kernel
theorem pn_0 : plainName "com/example/regista/regista/TruthOfPinLaw" = true := by first | (simp [plainName, overriddenIn]; done) | decide +kernel
theorem ef_0 (m : MethodId) (x0 : Int32) : entryFrame m #[(.int x0)] maxLocals = mkF m 0 #[.val (.int x0), .unset, .unset, .unset] [] := by first | (simp [entryFrame, mkF, argsToLocals, Value.category, maxLocals]; done) | rfl
def Q0 (Z : State) (p0_0 : Int32) (w0_FALSE : Addr) (w0_TRUE : Addr) (w0_UNKNOWN : Addr) (h0 : Heap) (n0 : Nat) (v : Option Value) (h : Heap) (L : List Loc) : Prop := v = some (.int (1 : Int32)) ∧ Fr n0 L
set_option maxRecDepth 65536 in
set_option maxHeartbeats 40000000 in
theorem rm0 (l : Launch) (Z : State) (a0 : Array Value) (hw : ∀ d ∈ tables_1, d.before a0 Z = true) (ws : List Jvm.Cond) (p0_0 : Int32) (w0_FALSE : Addr) (w0_TRUE : Addr) (w0_UNKNOWN : Addr) (h0 : Heap) (n0 : Nat) (Z0 : n0 ≤ h0.size) (O0 : Old Z n0 h0) (S_FALSE : Sta Z Z.heap "com/example/regista/regista/Label$Truth" "FALSE" "Lcom/example/regista/regista/Label$Truth;" (.ref w0_FALSE)) (S_TRUE : Sta Z Z.heap "com/example/regista/regista/Label$Truth" "TRUE" "Lcom/example/regista/regista/Label$Truth;" (.ref w0_TRUE)) (S_UNKNOWN : Sta Z Z.heap "com/example/regista/regista/Label$Truth" "UNKNOWN" "Lcom/example/regista/regista/Label$Truth;" (.ref w0_UNKNOWN)) (ne_w0_TRUE_w0_FALSE : w0_TRUE ≠ w0_FALSE) (ne_w0_TRUE_w0_UNKNOWN : w0_TRUE ≠ w0_UNKNOWN) (ne_w0_FALSE_w0_UNKNOWN : w0_FALSE ≠ w0_UNKNOWN) :
    MetFree l x (head1 (Jvm.Cond.code x code maxLocals ret :: ws) room_1) (fun a U => a = #[(.int p0_0)] ∧ Z.Warmed39 U.vm ∧ U.heap = h0) (fun _ _ _ _ _ => True) (fun _ U o U' => ∃ v L, o = .returned v ∧ Q0 Z p0_0 w0_FALSE w0_TRUE w0_UNKNOWN h0 n0 v U'.heap L ∧ FrameEnd U o U' L room_1.cells room_1.slots) := by
  refine MetFree.of_bodySF (plainFor_of_name pn_0) hisR ?_
  intro p e s m args below meth c s₁ Bd hml0 hP hK
  obtain ⟨rfl, hZ, hh⟩ := hP
  have hW : ∀ (i : Nat) (d : Jvm.Cond), tables_1[i]? = some d → d.before a0 Z = true := fun i d h => hw d (List.mem_of_getElem? h)
  have hx := Bd.exec
  have hby := Bd.bytes
  have hml : c.maxLocals = 4 := hml0
  have hown : s.vm.findClass "com/example/regista/regista/TruthOfPinLaw" = some m.cls := findClass_of_methodNamed Bd.named
  have hnm := (name_of_methodNamed Bd.named Bd.method).1
  have X0 : Stand p l e room_1 s m #[(.int p0_0)] below meth c s₁ [] 0 0 := Stand.of_body Bd
  have e0 : s₁.heap = h0 := by rw [← hh, Bd.state]; rfl
  have N0 := Fr.nil n0
  have pre0 : ∀ t, Steps p.tables e below (s₁.setTop (mkF m 0 #[.val (.int p0_0), .unset, .unset, .unset] [])) t → Steps p.tables e below (s₁.setTop (entryFrame m #[(.int p0_0)] maxLocals)) t := fun t k => castTop (ef_0 m p0_0) k
  by_cases hc1 : (p0_0 &&& (1 : Int32)) = (0 : Int32)
  · obtain ⟨_, _, ⟨T2, L2, k2, n2⟩, -, X2, ⟨Lc2, hQ2, l2, y2, z2⟩, st2⟩ := Jvm.LawKit.callS X0 hx (y := (⟨"com/example/regista/regista/Label$Truth", "of", "(Z)Lcom/example/regista/regista/Label$Truth;"⟩ : MethodName)) hown (mvT hZ (hW 0 _ rfl)) (mvT hZ (hW 1 _ rfl)) (mvT hZ (hW 2 _ rfl)) (mvT hZ (hW 3 _ rfl)) (by decide) (backOf (W := 0) (rm1f l Z a0 hw [] w0_FALSE h0 n0 Z0 O0 S_FALSE) hZ (hW 3 _ rfl) (hW 2 _ rfl) (by decide) (by decide)) (g := (mkF m 13 #[.val (.int p0_0), .val (.int (0 : Int32)), .unset, .unset] [(.int (0 : Int32))])) rfl (by rw [hml]; rfl) (argsL := [(.int (0 : Int32))]) (rest := []) (lenOf pd_0 rfl) rfl (by show 2 * 0 + _ ≤ _; exact Nat.le_of_eq rfl) (hb hby at_13) (fun _ _ => ⟨rfl, e0, (by decide : 0 + 0 ≤ _), (by decide : 0 + 0 ≤ _)⟩)
    dsimp only [Pt.U, Pt.locs, Pt.cells, Pt.slots] at X2 l2 y2 z2 st2 hQ2
    subst l2 y2 z2
    obtain ⟨rfl, N2q, e2⟩ := hQ2
    have N3 := Fr.app N0 N2q
    have pre4 : ∀ t, Steps p.tables e below (T2.setTop (mkF m 16 #[.val (.int p0_0), .val (.int (0 : Int32)), .unset, .unset] [(.ref w0_FALSE)])) t → Steps p.tables e below (s₁.setTop (entryFrame m #[(.int p0_0)] maxLocals)) t := fun t k => pre0 t (by
      show Steps p.tables e below (s₁.setTop (mkF m 0 #[.val (.int p0_0), .unset, .unset, .unset] [])) _
      refine XS.iloadN X0.here hx rfl (hb hby at_0) rfl ?_
      show Steps p.tables e below (s₁.setTop (mkF m 1 #[.val (.int p0_0), .unset, .unset, .unset] [(.int p0_0)])) _
      refine XS.iconst X0.here hx rfl (hb hby at_1) ?_
      show Steps p.tables e below (s₁.setTop (mkF m 2 #[.val (.int p0_0), .unset, .unset, .unset] [(.int (1 : Int32)), (.int p0_0)])) _
      refine XS.iand X0.here hx rfl (hb hby at_2) rfl ?_
      show Steps p.tables e below (s₁.setTop (mkF m 3 #[.val (.int p0_0), .unset, .unset, .unset] [(.int (p0_0 &&& (1 : Int32)))])) _
      refine XS.ifYes X0.here hx rfl (pc0 := 3) (pc' := 10) rfl (hb hby at_3) rfl ((if0 _ _).trans (teq hc1).1) (by decide) (by decide) ?_
      show Steps p.tables e below (s₁.setTop (mkF m 10 #[.val (.int p0_0), .unset, .unset, .unset] [])) _
      refine XS.iconst X0.here hx rfl (hb hby at_10) ?_
      show Steps p.tables e below (s₁.setTop (mkF m 11 #[.val (.int p0_0), .unset, .unset, .unset] [(.int (0 : Int32))])) _
      refine XS.istoreN X0.here hx rfl (hb hby at_11) rfl (l' := #[.val (.int p0_0), .val (.int (0 : Int32)), .unset, .unset]) rfl ?_
      show Steps p.tables e below (s₁.setTop (mkF m 12 #[.val (.int p0_0), .val (.int (0 : Int32)), .unset, .unset] [])) _
      refine XS.iloadN X0.here hx rfl (hb hby at_12) rfl ?_
      show Steps p.tables e below (s₁.setTop (mkF m 13 #[.val (.int p0_0), .val (.int (0 : Int32)), .unset, .unset] [(.int (0 : Int32))])) _
      refine st2 _ ?_
      exact k)
    obtain ⟨_, _, ⟨T5, L5, k5, n5⟩, -, X5, ⟨Lc5, hQ5, l5, y5, z5⟩, st5⟩ := Jvm.LawKit.callS X2 hx (y := (⟨"com/example/regista/regista/Label$Truth", "of", "(Z)Lcom/example/regista/regista/Label$Truth;"⟩ : MethodName)) hown (mvT hZ (hW 0 _ rfl)) (mvT hZ (hW 1 _ rfl)) (mvT hZ (hW 2 _ rfl)) (mvT hZ (hW 3 _ rfl)) (by decide) (backOf (W := 0) (rm1t l Z a0 hw [] w0_TRUE h0 n0 Z0 O0 S_TRUE) hZ (hW 3 _ rfl) (hW 2 _ rfl) (by decide) (by decide)) (g := (mkF m 26 #[.val (.int p0_0), .val (.int (0 : Int32)), .val (.ref w0_FALSE), .unset] [(.int (1 : Int32))])) rfl (by rw [hml]; rfl) (argsL := [(.int (1 : Int32))]) (rest := []) (lenOf pd_0 rfl) rfl (by show 2 * 0 + _ ≤ _; exact Nat.le_of_eq rfl) (hb hby at_26) (fun _ _ => ⟨rfl, e2, (by decide : 0 + 0 ≤ _), (by decide : 0 + 0 ≤ _)⟩)
    dsimp only [Pt.U, Pt.locs, Pt.cells, Pt.slots] at X5 l5 y5 z5 st5 hQ5
    subst l5 y5 z5
    obtain ⟨rfl, N5q, e5⟩ := hQ5
    have N6 := Fr.app N3 N5q
    have pre7 : ∀ t, Steps p.tables e below (T5.setTop (mkF m 29 #[.val (.int p0_0), .val (.int (0 : Int32)), .val (.ref w0_FALSE), .unset] [(.ref w0_TRUE)])) t → Steps p.tables e below (s₁.setTop (entryFrame m #[(.int p0_0)] maxLocals)) t := fun t k => pre4 t (by
      show Steps p.tables e below (T2.setTop (mkF m 16 #[.val (.int p0_0), .val (.int (0 : Int32)), .unset, .unset] [(.ref w0_FALSE)])) _
      refine XS.astoreN X2.here hx rfl (hb hby at_16) rfl rfl (l' := #[.val (.int p0_0), .val (.int (0 : Int32)), .val (.ref w0_FALSE), .unset]) rfl ?_
      show Steps p.tables e below (T2.setTop (mkF m 17 #[.val (.int p0_0), .val (.int (0 : Int32)), .val (.ref w0_FALSE), .unset] [])) _
      refine XS.iloadN X2.here hx rfl (hb hby at_17) rfl ?_
      show Steps p.tables e below (T2.setTop (mkF m 18 #[.val (.int p0_0), .val (.int (0 : Int32)), .val (.ref w0_FALSE), .unset] [(.int (0 : Int32))])) _
      refine XS.ifNo X2.here hx rfl (hb hby at_18) rfl ((if0 _ _).trans (teq (by decide : (0 : Int32) = (0 : Int32))).2) ?_
      show Steps p.tables e below (T2.setTop (mkF m 21 #[.val (.int p0_0), .val (.int (0 : Int32)), .val (.ref w0_FALSE), .unset] [])) _
      refine XS.iconst X2.here hx rfl (hb hby at_21) ?_
      show Steps p.tables e below (T2.setTop (mkF m 22 #[.val (.int p0_0), .val (.int (0 : Int32)), .val (.ref w0_FALSE), .unset] [(.int (1 : Int32))])) _
      refine XS.goto X2.here hx rfl (pc0 := 22) (pc' := 26) rfl (hb hby at_22) (by decide) (by decide) ?_
      show Steps p.tables e below (T2.setTop (mkF m 26 #[.val (.int p0_0), .val (.int (0 : Int32)), .val (.ref w0_FALSE), .unset] [(.int (1 : Int32))])) _
      refine st5 _ ?_
      exact k)
    obtain ⟨T8, X8, e8, st8⟩ := getS2 X5 hx hZ hown (host := "") (Or.inl (hW 8 _ rfl)) Via.refl e5 (S_UNKNOWN.ext O0.2) (g := (mkF m 41 #[.val (.int p0_0), .val (.int (0 : Int32)), .val (.ref w0_FALSE), .val (.ref w0_TRUE)] [(.ref w0_FALSE)])) rfl (hb hby at_41)
    have pre9 : ∀ t, Steps p.tables e below (T8.setTop (mkF m 44 #[.val (.int p0_0), .val (.int (0 : Int32)), .val (.ref w0_FALSE), .val (.ref w0_TRUE)] [(.ref w0_UNKNOWN), (.ref w0_FALSE)])) t → Steps p.tables e below (s₁.setTop (entryFrame m #[(.int p0_0)] maxLocals)) t := fun t k => pre7 t (by
      show Steps p.tables e below (T5.setTop (mkF m 29 #[.val (.int p0_0), .val (.int (0 : Int32)), .val (.ref w0_FALSE), .unset] [(.ref w0_TRUE)])) _
      refine XS.astoreN X5.here hx rfl (hb hby at_29) rfl rfl (l' := #[.val (.int p0_0), .val (.int (0 : Int32)), .val (.ref w0_FALSE), .val (.ref w0_TRUE)]) rfl ?_
      show Steps p.tables e below (T5.setTop (mkF m 30 #[.val (.int p0_0), .val (.int (0 : Int32)), .val (.ref w0_FALSE), .val (.ref w0_TRUE)] [])) _
      refine XS.aloadN X5.here hx rfl (hb hby at_30) rfl rfl ?_
      show Steps p.tables e below (T5.setTop (mkF m 31 #[.val (.int p0_0), .val (.int (0 : Int32)), .val (.ref w0_FALSE), .val (.ref w0_TRUE)] [(.ref w0_FALSE)])) _
      refine XS.ifnullNo X5.here hx rfl (hb hby at_31) rfl ?_
      show Steps p.tables e below (T5.setTop (mkF m 34 #[.val (.int p0_0), .val (.int (0 : Int32)), .val (.ref w0_FALSE), .val (.ref w0_TRUE)] [])) _
      refine XS.aloadN X5.here hx rfl (hb hby at_34) rfl rfl ?_
      show Steps p.tables e below (T5.setTop (mkF m 35 #[.val (.int p0_0), .val (.int (0 : Int32)), .val (.ref w0_FALSE), .val (.ref w0_TRUE)] [(.ref w0_TRUE)])) _
      refine XS.ifnonnullYes X5.here hx rfl (pc0 := 35) (pc' := 40) rfl (hb hby at_35) rfl (by decide) (by decide) ?_
      show Steps p.tables e below (T5.setTop (mkF m 40 #[.val (.int p0_0), .val (.int (0 : Int32)), .val (.ref w0_FALSE), .val (.ref w0_TRUE)] [])) _
      refine XS.aloadN X5.here hx rfl (hb hby at_40) rfl rfl ?_
      show Steps p.tables e below (T5.setTop (mkF m 41 #[.val (.int p0_0), .val (.int (0 : Int32)), .val (.ref w0_FALSE), .val (.ref w0_TRUE)] [(.ref w0_FALSE)])) _
      refine st8 _ ?_
      exact k)
    obtain ⟨T10, X10, e10, st10⟩ := getS2 X8 hx hZ hown (host := "") (Or.inl (hW 8 _ rfl)) Via.refl e8 (S_UNKNOWN.ext O0.2) (g := (mkF m 48 #[.val (.int p0_0), .val (.int (0 : Int32)), .val (.ref w0_FALSE), .val (.ref w0_TRUE)] [(.ref w0_TRUE)])) rfl (hb hby at_48)
    have pre11 : ∀ t, Steps p.tables e below (T10.setTop (mkF m 51 #[.val (.int p0_0), .val (.int (0 : Int32)), .val (.ref w0_FALSE), .val (.ref w0_TRUE)] [(.ref w0_UNKNOWN), (.ref w0_TRUE)])) t → Steps p.tables e below (s₁.setTop (entryFrame m #[(.int p0_0)] maxLocals)) t := fun t k => pre9 t (by
      show Steps p.tables e below (T8.setTop (mkF m 44 #[.val (.int p0_0), .val (.int (0 : Int32)), .val (.ref w0_FALSE), .val (.ref w0_TRUE)] [(.ref w0_UNKNOWN), (.ref w0_FALSE)])) _
      refine Jvm.RoadKit.acmp (g := (mkF m 44 #[.val (.int p0_0), .val (.int (0 : Int32)), .val (.ref w0_FALSE), .val (.ref w0_TRUE)] [(.ref w0_UNKNOWN), (.ref w0_FALSE)])) X8 hx rfl rfl rfl (pc0 := 44) (pc' := 47) (same := false) rfl (hb hby at_44) rfl (decide_eq_false fun q => ne_w0_FALSE_w0_UNKNOWN (Value.ref.inj q)) (by decide) (by decide) ?_
      show Steps p.tables e below (T8.setTop (mkF m 47 #[.val (.int p0_0), .val (.int (0 : Int32)), .val (.ref w0_FALSE), .val (.ref w0_TRUE)] [])) _
      refine XS.aloadN X8.here hx rfl (hb hby at_47) rfl rfl ?_
      show Steps p.tables e below (T8.setTop (mkF m 48 #[.val (.int p0_0), .val (.int (0 : Int32)), .val (.ref w0_FALSE), .val (.ref w0_TRUE)] [(.ref w0_TRUE)])) _
      refine st10 _ ?_
      exact k)
    obtain ⟨T12, X12, e12, st12⟩ := getS2 X10 hx hZ hown (host := "") (Or.inl (hW 10 _ rfl)) Via.refl e10 (S_TRUE.ext O0.2) (g := (mkF m 57 #[.val (.int p0_0), .val (.int (0 : Int32)), .val (.ref w0_FALSE), .val (.ref w0_TRUE)] [(.ref w0_FALSE)])) rfl (hb hby at_57)
    have pre13 : ∀ t, Steps p.tables e below (T12.setTop (mkF m 60 #[.val (.int p0_0), .val (.int (0 : Int32)), .val (.ref w0_FALSE), .val (.ref w0_TRUE)] [(.ref w0_TRUE), (.ref w0_FALSE)])) t → Steps p.tables e below (s₁.setTop (entryFrame m #[(.int p0_0)] maxLocals)) t := fun t k => pre11 t (by
      show Steps p.tables e below (T10.setTop (mkF m 51 #[.val (.int p0_0), .val (.int (0 : Int32)), .val (.ref w0_FALSE), .val (.ref w0_TRUE)] [(.ref w0_UNKNOWN), (.ref w0_TRUE)])) _
      refine Jvm.RoadKit.acmp (g := (mkF m 51 #[.val (.int p0_0), .val (.int (0 : Int32)), .val (.ref w0_FALSE), .val (.ref w0_TRUE)] [(.ref w0_UNKNOWN), (.ref w0_TRUE)])) X10 hx rfl rfl rfl (pc0 := 51) (pc' := 56) (same := false) rfl (hb hby at_51) rfl (decide_eq_false fun q => ne_w0_TRUE_w0_UNKNOWN (Value.ref.inj q)) (by decide) (by decide) ?_
      show Steps p.tables e below (T10.setTop (mkF m 56 #[.val (.int p0_0), .val (.int (0 : Int32)), .val (.ref w0_FALSE), .val (.ref w0_TRUE)] [])) _
      refine XS.aloadN X10.here hx rfl (hb hby at_56) rfl rfl ?_
      show Steps p.tables e below (T10.setTop (mkF m 57 #[.val (.int p0_0), .val (.int (0 : Int32)), .val (.ref w0_FALSE), .val (.ref w0_TRUE)] [(.ref w0_FALSE)])) _
      refine st12 _ ?_
      exact k)
    obtain ⟨T14, X14, e14, st14⟩ := getS2 X12 hx hZ hown (host := "") (Or.inl (hW 10 _ rfl)) Via.refl e12 (S_TRUE.ext O0.2) (g := (mkF m 73 #[.val (.int p0_0), .val (.int (0 : Int32)), .val (.ref w0_FALSE), .val (.ref w0_TRUE)] [(.ref w0_TRUE)])) rfl (hb hby at_73)
    have pre15 : ∀ t, Steps p.tables e below (T14.setTop (mkF m 76 #[.val (.int p0_0), .val (.int (0 : Int32)), .val (.ref w0_FALSE), .val (.ref w0_TRUE)] [(.ref w0_TRUE), (.ref w0_TRUE)])) t → Steps p.tables e below (s₁.setTop (entryFrame m #[(.int p0_0)] maxLocals)) t := fun t k => pre13 t (by
      show Steps p.tables e below (T12.setTop (mkF m 60 #[.val (.int p0_0), .val (.int (0 : Int32)), .val (.ref w0_FALSE), .val (.ref w0_TRUE)] [(.ref w0_TRUE), (.ref w0_FALSE)])) _
      refine Jvm.RoadKit.acmp (g := (mkF m 60 #[.val (.int p0_0), .val (.int (0 : Int32)), .val (.ref w0_FALSE), .val (.ref w0_TRUE)] [(.ref w0_TRUE), (.ref w0_FALSE)])) X12 hx rfl rfl rfl (pc0 := 60) (pc' := 67) (same := false) rfl (hb hby at_60) rfl (decide_eq_false fun q => (Ne.symm ne_w0_TRUE_w0_FALSE) (Value.ref.inj q)) (by decide) (by decide) ?_
      show Steps p.tables e below (T12.setTop (mkF m 67 #[.val (.int p0_0), .val (.int (0 : Int32)), .val (.ref w0_FALSE), .val (.ref w0_TRUE)] [])) _
      refine XS.iconst X12.here hx rfl (hb hby at_67) ?_
      show Steps p.tables e below (T12.setTop (mkF m 68 #[.val (.int p0_0), .val (.int (0 : Int32)), .val (.ref w0_FALSE), .val (.ref w0_TRUE)] [(.int (0 : Int32))])) _
      refine XS.iloadN X12.here hx rfl (hb hby at_68) rfl ?_
      show Steps p.tables e below (T12.setTop (mkF m 69 #[.val (.int p0_0), .val (.int (0 : Int32)), .val (.ref w0_FALSE), .val (.ref w0_TRUE)] [(.int (0 : Int32)), (.int (0 : Int32))])) _
      refine XS.icmpNo X12.here hx rfl (hb hby at_69) rfl (teq (by decide : (0 : Int32) = (0 : Int32))).2 ?_
      show Steps p.tables e below (T12.setTop (mkF m 72 #[.val (.int p0_0), .val (.int (0 : Int32)), .val (.ref w0_FALSE), .val (.ref w0_TRUE)] [])) _
      refine XS.aloadN X12.here hx rfl (hb hby at_72) rfl rfl ?_
      show Steps p.tables e below (T12.setTop (mkF m 73 #[.val (.int p0_0), .val (.int (0 : Int32)), .val (.ref w0_FALSE), .val (.ref w0_TRUE)] [(.ref w0_TRUE)])) _
      refine st14 _ ?_
      exact k)
    obtain ⟨fs, hr, hrun, hended, hW, hsame⟩ := X14.leave (v := some (.int (1 : Int32))) (fun h => by rw [Bd.returns] at h; cases h)
    refine ⟨_, _, pre15 _ ?_, hrun, hended, _, _, rfl, ?_, ⟨_, rfl⟩, hW, hsame.mono (by decide) (by decide)⟩
    · show Steps p.tables e below (T14.setTop (mkF m 76 #[.val (.int p0_0), .val (.int (0 : Int32)), .val (.ref w0_FALSE), .val (.ref w0_TRUE)] [(.ref w0_TRUE), (.ref w0_TRUE)])) _
      refine Jvm.RoadKit.acmp (g := (mkF m 76 #[.val (.int p0_0), .val (.int (0 : Int32)), .val (.ref w0_FALSE), .val (.ref w0_TRUE)] [(.ref w0_TRUE), (.ref w0_TRUE)])) X14 hx rfl rfl rfl (pc0 := 76) (pc' := 79) (same := true) rfl (hb hby at_76) rfl (decide_eq_true rfl) (by decide) (by decide) ?_
      show Steps p.tables e below (T14.setTop (mkF m 79 #[.val (.int p0_0), .val (.int (0 : Int32)), .val (.ref w0_FALSE), .val (.ref w0_TRUE)] [])) _
      refine XS.iconst X14.here hx rfl (hb hby at_79) ?_
      show Steps p.tables e below (T14.setTop (mkF m 80 #[.val (.int p0_0), .val (.int (0 : Int32)), .val (.ref w0_FALSE), .val (.ref w0_TRUE)] [(.int (1 : Int32))])) _
      refine XS.goto X14.here hx rfl (pc0 := 80) (pc' := 84) rfl (hb hby at_80) (by decide) (by decide) ?_
      show Steps p.tables e below (T14.setTop (mkF m 84 #[.val (.int p0_0), .val (.int (0 : Int32)), .val (.ref w0_FALSE), .val (.ref w0_TRUE)] [(.int (1 : Int32))])) _
      refine XS.iloadN X14.here hx rfl (hb hby at_84) rfl ?_
      show Steps p.tables e below (T14.setTop (mkF m 85 #[.val (.int p0_0), .val (.int (0 : Int32)), .val (.ref w0_FALSE), .val (.ref w0_TRUE)] [(.int (0 : Int32)), (.int (1 : Int32))])) _
      refine XS.ifNo X14.here hx rfl (hb hby at_85) rfl ((if0 _ _).trans (teq (by decide : (0 : Int32) = (0 : Int32))).2) ?_
      show Steps p.tables e below (T14.setTop (mkF m 88 #[.val (.int p0_0), .val (.int (0 : Int32)), .val (.ref w0_FALSE), .val (.ref w0_TRUE)] [(.int (1 : Int32))])) _
      refine XS.iconst X14.here hx rfl (hb hby at_88) ?_
      show Steps p.tables e below (T14.setTop (mkF m 89 #[.val (.int p0_0), .val (.int (0 : Int32)), .val (.ref w0_FALSE), .val (.ref w0_TRUE)] [(.int (1 : Int32)), (.int (1 : Int32))])) _
      refine XS.goto X14.here hx rfl (pc0 := 89) (pc' := 93) rfl (hb hby at_89) (by decide) (by decide) ?_
      show Steps p.tables e below (T14.setTop (mkF m 93 #[.val (.int p0_0), .val (.int (0 : Int32)), .val (.ref w0_FALSE), .val (.ref w0_TRUE)] [(.int (1 : Int32)), (.int (1 : Int32))])) _
      refine XS.icmpNo X14.here hx rfl (hb hby at_93) rfl (teq (by decide : (1 : Int32) = (1 : Int32))).2 ?_
      show Steps p.tables e below (T14.setTop (mkF m 96 #[.val (.int p0_0), .val (.int (0 : Int32)), .val (.ref w0_FALSE), .val (.ref w0_TRUE)] [])) _
      refine XS.aloadN X14.here hx rfl (hb hby at_96) rfl rfl ?_
      show Steps p.tables e below (T14.setTop (mkF m 97 #[.val (.int p0_0), .val (.int (0 : Int32)), .val (.ref w0_FALSE), .val (.ref w0_TRUE)] [(.ref w0_FALSE)])) _
      refine XS.aloadN X14.here hx rfl (hb hby at_97) rfl rfl ?_
      show Steps p.tables e below (T14.setTop (mkF m 98 #[.val (.int p0_0), .val (.int (0 : Int32)), .val (.ref w0_FALSE), .val (.ref w0_TRUE)] [(.ref w0_TRUE), (.ref w0_FALSE)])) _
      refine Jvm.RoadKit.acmp (g := (mkF m 98 #[.val (.int p0_0), .val (.int (0 : Int32)), .val (.ref w0_FALSE), .val (.ref w0_TRUE)] [(.ref w0_TRUE), (.ref w0_FALSE)])) X14 hx rfl rfl rfl (pc0 := 98) (pc' := 101) (same := false) rfl (hb hby at_98) rfl (decide_eq_false fun q => (Ne.symm ne_w0_TRUE_w0_FALSE) (Value.ref.inj q)) (by decide) (by decide) ?_
      show Steps p.tables e below (T14.setTop (mkF m 101 #[.val (.int p0_0), .val (.int (0 : Int32)), .val (.ref w0_FALSE), .val (.ref w0_TRUE)] [])) _
      refine XS.iconst X14.here hx rfl (hb hby at_101) ?_
      show Steps p.tables e below (T14.setTop (mkF m 102 #[.val (.int p0_0), .val (.int (0 : Int32)), .val (.ref w0_FALSE), .val (.ref w0_TRUE)] [(.int (1 : Int32))])) _
      refine XS.goto X14.here hx rfl (pc0 := 102) (pc' := 106) rfl (hb hby at_102) (by decide) (by decide) ?_
      show Steps p.tables e below (T14.setTop (mkF m 106 #[.val (.int p0_0), .val (.int (0 : Int32)), .val (.ref w0_FALSE), .val (.ref w0_TRUE)] [(.int (1 : Int32))])) _
      exact retN X14 hx (t := .boolean) Bd.returns (by simp) (hb hby at_106) hr
    · show Q0 Z p0_0 w0_FALSE w0_TRUE w0_UNKNOWN h0 n0 _ T14.heap _
      rw [e14]
      exact ⟨rfl, N6⟩
  · obtain ⟨_, _, ⟨T16, L16, k16, n16⟩, -, X16, ⟨Lc16, hQ16, l16, y16, z16⟩, st16⟩ := Jvm.LawKit.callS X0 hx (y := (⟨"com/example/regista/regista/Label$Truth", "of", "(Z)Lcom/example/regista/regista/Label$Truth;"⟩ : MethodName)) hown (mvT hZ (hW 0 _ rfl)) (mvT hZ (hW 1 _ rfl)) (mvT hZ (hW 2 _ rfl)) (mvT hZ (hW 3 _ rfl)) (by decide) (backOf (W := 0) (rm1t l Z a0 hw [] w0_TRUE h0 n0 Z0 O0 S_TRUE) hZ (hW 3 _ rfl) (hW 2 _ rfl) (by decide) (by decide)) (g := (mkF m 13 #[.val (.int p0_0), .val (.int (1 : Int32)), .unset, .unset] [(.int (1 : Int32))])) rfl (by rw [hml]; rfl) (argsL := [(.int (1 : Int32))]) (rest := []) (lenOf pd_0 rfl) rfl (by show 2 * 0 + _ ≤ _; exact Nat.le_of_eq rfl) (hb hby at_13) (fun _ _ => ⟨rfl, e0, (by decide : 0 + 0 ≤ _), (by decide : 0 + 0 ≤ _)⟩)
    dsimp only [Pt.U, Pt.locs, Pt.cells, Pt.slots] at X16 l16 y16 z16 st16 hQ16
    subst l16 y16 z16
    obtain ⟨rfl, N16q, e16⟩ := hQ16
    have N17 := Fr.app N0 N16q
    have pre18 : ∀ t, Steps p.tables e below (T16.setTop (mkF m 16 #[.val (.int p0_0), .val (.int (1 : Int32)), .unset, .unset] [(.ref w0_TRUE)])) t → Steps p.tables e below (s₁.setTop (entryFrame m #[(.int p0_0)] maxLocals)) t := fun t k => pre0 t (by
      show Steps p.tables e below (s₁.setTop (mkF m 0 #[.val (.int p0_0), .unset, .unset, .unset] [])) _
      refine XS.iloadN X0.here hx rfl (hb hby at_0) rfl ?_
      show Steps p.tables e below (s₁.setTop (mkF m 1 #[.val (.int p0_0), .unset, .unset, .unset] [(.int p0_0)])) _
      refine XS.iconst X0.here hx rfl (hb hby at_1) ?_
      show Steps p.tables e below (s₁.setTop (mkF m 2 #[.val (.int p0_0), .unset, .unset, .unset] [(.int (1 : Int32)), (.int p0_0)])) _
      refine XS.iand X0.here hx rfl (hb hby at_2) rfl ?_
      show Steps p.tables e below (s₁.setTop (mkF m 3 #[.val (.int p0_0), .unset, .unset, .unset] [(.int (p0_0 &&& (1 : Int32)))])) _
      refine XS.ifNo X0.here hx rfl (hb hby at_3) rfl ((if0 _ _).trans (feq hc1).1) ?_
      show Steps p.tables e below (s₁.setTop (mkF m 6 #[.val (.int p0_0), .unset, .unset, .unset] [])) _
      refine XS.iconst X0.here hx rfl (hb hby at_6) ?_
      show Steps p.tables e below (s₁.setTop (mkF m 7 #[.val (.int p0_0), .unset, .unset, .unset] [(.int (1 : Int32))])) _
      refine XS.goto X0.here hx rfl (pc0 := 7) (pc' := 11) rfl (hb hby at_7) (by decide) (by decide) ?_
      show Steps p.tables e below (s₁.setTop (mkF m 11 #[.val (.int p0_0), .unset, .unset, .unset] [(.int (1 : Int32))])) _
      refine XS.istoreN X0.here hx rfl (hb hby at_11) rfl (l' := #[.val (.int p0_0), .val (.int (1 : Int32)), .unset, .unset]) rfl ?_
      show Steps p.tables e below (s₁.setTop (mkF m 12 #[.val (.int p0_0), .val (.int (1 : Int32)), .unset, .unset] [])) _
      refine XS.iloadN X0.here hx rfl (hb hby at_12) rfl ?_
      show Steps p.tables e below (s₁.setTop (mkF m 13 #[.val (.int p0_0), .val (.int (1 : Int32)), .unset, .unset] [(.int (1 : Int32))])) _
      refine st16 _ ?_
      exact k)
    obtain ⟨_, _, ⟨T19, L19, k19, n19⟩, -, X19, ⟨Lc19, hQ19, l19, y19, z19⟩, st19⟩ := Jvm.LawKit.callS X16 hx (y := (⟨"com/example/regista/regista/Label$Truth", "of", "(Z)Lcom/example/regista/regista/Label$Truth;"⟩ : MethodName)) hown (mvT hZ (hW 0 _ rfl)) (mvT hZ (hW 1 _ rfl)) (mvT hZ (hW 2 _ rfl)) (mvT hZ (hW 3 _ rfl)) (by decide) (backOf (W := 0) (rm1f l Z a0 hw [] w0_FALSE h0 n0 Z0 O0 S_FALSE) hZ (hW 3 _ rfl) (hW 2 _ rfl) (by decide) (by decide)) (g := (mkF m 26 #[.val (.int p0_0), .val (.int (1 : Int32)), .val (.ref w0_TRUE), .unset] [(.int (0 : Int32))])) rfl (by rw [hml]; rfl) (argsL := [(.int (0 : Int32))]) (rest := []) (lenOf pd_0 rfl) rfl (by show 2 * 0 + _ ≤ _; exact Nat.le_of_eq rfl) (hb hby at_26) (fun _ _ => ⟨rfl, e16, (by decide : 0 + 0 ≤ _), (by decide : 0 + 0 ≤ _)⟩)
    dsimp only [Pt.U, Pt.locs, Pt.cells, Pt.slots] at X19 l19 y19 z19 st19 hQ19
    subst l19 y19 z19
    obtain ⟨rfl, N19q, e19⟩ := hQ19
    have N20 := Fr.app N17 N19q
    have pre21 : ∀ t, Steps p.tables e below (T19.setTop (mkF m 29 #[.val (.int p0_0), .val (.int (1 : Int32)), .val (.ref w0_TRUE), .unset] [(.ref w0_FALSE)])) t → Steps p.tables e below (s₁.setTop (entryFrame m #[(.int p0_0)] maxLocals)) t := fun t k => pre18 t (by
      show Steps p.tables e below (T16.setTop (mkF m 16 #[.val (.int p0_0), .val (.int (1 : Int32)), .unset, .unset] [(.ref w0_TRUE)])) _
      refine XS.astoreN X16.here hx rfl (hb hby at_16) rfl rfl (l' := #[.val (.int p0_0), .val (.int (1 : Int32)), .val (.ref w0_TRUE), .unset]) rfl ?_
      show Steps p.tables e below (T16.setTop (mkF m 17 #[.val (.int p0_0), .val (.int (1 : Int32)), .val (.ref w0_TRUE), .unset] [])) _
      refine XS.iloadN X16.here hx rfl (hb hby at_17) rfl ?_
      show Steps p.tables e below (T16.setTop (mkF m 18 #[.val (.int p0_0), .val (.int (1 : Int32)), .val (.ref w0_TRUE), .unset] [(.int (1 : Int32))])) _
      refine XS.ifYes X16.here hx rfl (pc0 := 18) (pc' := 25) rfl (hb hby at_18) rfl ((if0 _ _).trans (feq (by decide : ¬ ((1 : Int32) = (0 : Int32)))).2) (by decide) (by decide) ?_
      show Steps p.tables e below (T16.setTop (mkF m 25 #[.val (.int p0_0), .val (.int (1 : Int32)), .val (.ref w0_TRUE), .unset] [])) _
      refine XS.iconst X16.here hx rfl (hb hby at_25) ?_
      show Steps p.tables e below (T16.setTop (mkF m 26 #[.val (.int p0_0), .val (.int (1 : Int32)), .val (.ref w0_TRUE), .unset] [(.int (0 : Int32))])) _
      refine st19 _ ?_
      exact k)
    obtain ⟨T22, X22, e22, st22⟩ := getS2 X19 hx hZ hown (host := "") (Or.inl (hW 8 _ rfl)) Via.refl e19 (S_UNKNOWN.ext O0.2) (g := (mkF m 41 #[.val (.int p0_0), .val (.int (1 : Int32)), .val (.ref w0_TRUE), .val (.ref w0_FALSE)] [(.ref w0_TRUE)])) rfl (hb hby at_41)
    have pre23 : ∀ t, Steps p.tables e below (T22.setTop (mkF m 44 #[.val (.int p0_0), .val (.int (1 : Int32)), .val (.ref w0_TRUE), .val (.ref w0_FALSE)] [(.ref w0_UNKNOWN), (.ref w0_TRUE)])) t → Steps p.tables e below (s₁.setTop (entryFrame m #[(.int p0_0)] maxLocals)) t := fun t k => pre21 t (by
      show Steps p.tables e below (T19.setTop (mkF m 29 #[.val (.int p0_0), .val (.int (1 : Int32)), .val (.ref w0_TRUE), .unset] [(.ref w0_FALSE)])) _
      refine XS.astoreN X19.here hx rfl (hb hby at_29) rfl rfl (l' := #[.val (.int p0_0), .val (.int (1 : Int32)), .val (.ref w0_TRUE), .val (.ref w0_FALSE)]) rfl ?_
      show Steps p.tables e below (T19.setTop (mkF m 30 #[.val (.int p0_0), .val (.int (1 : Int32)), .val (.ref w0_TRUE), .val (.ref w0_FALSE)] [])) _
      refine XS.aloadN X19.here hx rfl (hb hby at_30) rfl rfl ?_
      show Steps p.tables e below (T19.setTop (mkF m 31 #[.val (.int p0_0), .val (.int (1 : Int32)), .val (.ref w0_TRUE), .val (.ref w0_FALSE)] [(.ref w0_TRUE)])) _
      refine XS.ifnullNo X19.here hx rfl (hb hby at_31) rfl ?_
      show Steps p.tables e below (T19.setTop (mkF m 34 #[.val (.int p0_0), .val (.int (1 : Int32)), .val (.ref w0_TRUE), .val (.ref w0_FALSE)] [])) _
      refine XS.aloadN X19.here hx rfl (hb hby at_34) rfl rfl ?_
      show Steps p.tables e below (T19.setTop (mkF m 35 #[.val (.int p0_0), .val (.int (1 : Int32)), .val (.ref w0_TRUE), .val (.ref w0_FALSE)] [(.ref w0_FALSE)])) _
      refine XS.ifnonnullYes X19.here hx rfl (pc0 := 35) (pc' := 40) rfl (hb hby at_35) rfl (by decide) (by decide) ?_
      show Steps p.tables e below (T19.setTop (mkF m 40 #[.val (.int p0_0), .val (.int (1 : Int32)), .val (.ref w0_TRUE), .val (.ref w0_FALSE)] [])) _
      refine XS.aloadN X19.here hx rfl (hb hby at_40) rfl rfl ?_
      show Steps p.tables e below (T19.setTop (mkF m 41 #[.val (.int p0_0), .val (.int (1 : Int32)), .val (.ref w0_TRUE), .val (.ref w0_FALSE)] [(.ref w0_TRUE)])) _
      refine st22 _ ?_
      exact k)
    obtain ⟨T24, X24, e24, st24⟩ := getS2 X22 hx hZ hown (host := "") (Or.inl (hW 8 _ rfl)) Via.refl e22 (S_UNKNOWN.ext O0.2) (g := (mkF m 48 #[.val (.int p0_0), .val (.int (1 : Int32)), .val (.ref w0_TRUE), .val (.ref w0_FALSE)] [(.ref w0_FALSE)])) rfl (hb hby at_48)
    have pre25 : ∀ t, Steps p.tables e below (T24.setTop (mkF m 51 #[.val (.int p0_0), .val (.int (1 : Int32)), .val (.ref w0_TRUE), .val (.ref w0_FALSE)] [(.ref w0_UNKNOWN), (.ref w0_FALSE)])) t → Steps p.tables e below (s₁.setTop (entryFrame m #[(.int p0_0)] maxLocals)) t := fun t k => pre23 t (by
      show Steps p.tables e below (T22.setTop (mkF m 44 #[.val (.int p0_0), .val (.int (1 : Int32)), .val (.ref w0_TRUE), .val (.ref w0_FALSE)] [(.ref w0_UNKNOWN), (.ref w0_TRUE)])) _
      refine Jvm.RoadKit.acmp (g := (mkF m 44 #[.val (.int p0_0), .val (.int (1 : Int32)), .val (.ref w0_TRUE), .val (.ref w0_FALSE)] [(.ref w0_UNKNOWN), (.ref w0_TRUE)])) X22 hx rfl rfl rfl (pc0 := 44) (pc' := 47) (same := false) rfl (hb hby at_44) rfl (decide_eq_false fun q => ne_w0_TRUE_w0_UNKNOWN (Value.ref.inj q)) (by decide) (by decide) ?_
      show Steps p.tables e below (T22.setTop (mkF m 47 #[.val (.int p0_0), .val (.int (1 : Int32)), .val (.ref w0_TRUE), .val (.ref w0_FALSE)] [])) _
      refine XS.aloadN X22.here hx rfl (hb hby at_47) rfl rfl ?_
      show Steps p.tables e below (T22.setTop (mkF m 48 #[.val (.int p0_0), .val (.int (1 : Int32)), .val (.ref w0_TRUE), .val (.ref w0_FALSE)] [(.ref w0_FALSE)])) _
      refine st24 _ ?_
      exact k)
    obtain ⟨T26, X26, e26, st26⟩ := getS2 X24 hx hZ hown (host := "") (Or.inl (hW 10 _ rfl)) Via.refl e24 (S_TRUE.ext O0.2) (g := (mkF m 57 #[.val (.int p0_0), .val (.int (1 : Int32)), .val (.ref w0_TRUE), .val (.ref w0_FALSE)] [(.ref w0_TRUE)])) rfl (hb hby at_57)
    have pre27 : ∀ t, Steps p.tables e below (T26.setTop (mkF m 60 #[.val (.int p0_0), .val (.int (1 : Int32)), .val (.ref w0_TRUE), .val (.ref w0_FALSE)] [(.ref w0_TRUE), (.ref w0_TRUE)])) t → Steps p.tables e below (s₁.setTop (entryFrame m #[(.int p0_0)] maxLocals)) t := fun t k => pre25 t (by
      show Steps p.tables e below (T24.setTop (mkF m 51 #[.val (.int p0_0), .val (.int (1 : Int32)), .val (.ref w0_TRUE), .val (.ref w0_FALSE)] [(.ref w0_UNKNOWN), (.ref w0_FALSE)])) _
      refine Jvm.RoadKit.acmp (g := (mkF m 51 #[.val (.int p0_0), .val (.int (1 : Int32)), .val (.ref w0_TRUE), .val (.ref w0_FALSE)] [(.ref w0_UNKNOWN), (.ref w0_FALSE)])) X24 hx rfl rfl rfl (pc0 := 51) (pc' := 56) (same := false) rfl (hb hby at_51) rfl (decide_eq_false fun q => ne_w0_FALSE_w0_UNKNOWN (Value.ref.inj q)) (by decide) (by decide) ?_
      show Steps p.tables e below (T24.setTop (mkF m 56 #[.val (.int p0_0), .val (.int (1 : Int32)), .val (.ref w0_TRUE), .val (.ref w0_FALSE)] [])) _
      refine XS.aloadN X24.here hx rfl (hb hby at_56) rfl rfl ?_
      show Steps p.tables e below (T24.setTop (mkF m 57 #[.val (.int p0_0), .val (.int (1 : Int32)), .val (.ref w0_TRUE), .val (.ref w0_FALSE)] [(.ref w0_TRUE)])) _
      refine st26 _ ?_
      exact k)
    obtain ⟨T28, X28, e28, st28⟩ := getS2 X26 hx hZ hown (host := "") (Or.inl (hW 10 _ rfl)) Via.refl e26 (S_TRUE.ext O0.2) (g := (mkF m 73 #[.val (.int p0_0), .val (.int (1 : Int32)), .val (.ref w0_TRUE), .val (.ref w0_FALSE)] [(.ref w0_FALSE)])) rfl (hb hby at_73)
    have pre29 : ∀ t, Steps p.tables e below (T28.setTop (mkF m 76 #[.val (.int p0_0), .val (.int (1 : Int32)), .val (.ref w0_TRUE), .val (.ref w0_FALSE)] [(.ref w0_TRUE), (.ref w0_FALSE)])) t → Steps p.tables e below (s₁.setTop (entryFrame m #[(.int p0_0)] maxLocals)) t := fun t k => pre27 t (by
      show Steps p.tables e below (T26.setTop (mkF m 60 #[.val (.int p0_0), .val (.int (1 : Int32)), .val (.ref w0_TRUE), .val (.ref w0_FALSE)] [(.ref w0_TRUE), (.ref w0_TRUE)])) _
      refine Jvm.RoadKit.acmp (g := (mkF m 60 #[.val (.int p0_0), .val (.int (1 : Int32)), .val (.ref w0_TRUE), .val (.ref w0_FALSE)] [(.ref w0_TRUE), (.ref w0_TRUE)])) X26 hx rfl rfl rfl (pc0 := 60) (pc' := 63) (same := true) rfl (hb hby at_60) rfl (decide_eq_true rfl) (by decide) (by decide) ?_
      show Steps p.tables e below (T26.setTop (mkF m 63 #[.val (.int p0_0), .val (.int (1 : Int32)), .val (.ref w0_TRUE), .val (.ref w0_FALSE)] [])) _
      refine XS.iconst X26.here hx rfl (hb hby at_63) ?_
      show Steps p.tables e below (T26.setTop (mkF m 64 #[.val (.int p0_0), .val (.int (1 : Int32)), .val (.ref w0_TRUE), .val (.ref w0_FALSE)] [(.int (1 : Int32))])) _
      refine XS.goto X26.here hx rfl (pc0 := 64) (pc' := 68) rfl (hb hby at_64) (by decide) (by decide) ?_
      show Steps p.tables e below (T26.setTop (mkF m 68 #[.val (.int p0_0), .val (.int (1 : Int32)), .val (.ref w0_TRUE), .val (.ref w0_FALSE)] [(.int (1 : Int32))])) _
      refine XS.iloadN X26.here hx rfl (hb hby at_68) rfl ?_
      show Steps p.tables e below (T26.setTop (mkF m 69 #[.val (.int p0_0), .val (.int (1 : Int32)), .val (.ref w0_TRUE), .val (.ref w0_FALSE)] [(.int (1 : Int32)), (.int (1 : Int32))])) _
      refine XS.icmpNo X26.here hx rfl (hb hby at_69) rfl (teq (by decide : (1 : Int32) = (1 : Int32))).2 ?_
      show Steps p.tables e below (T26.setTop (mkF m 72 #[.val (.int p0_0), .val (.int (1 : Int32)), .val (.ref w0_TRUE), .val (.ref w0_FALSE)] [])) _
      refine XS.aloadN X26.here hx rfl (hb hby at_72) rfl rfl ?_
      show Steps p.tables e below (T26.setTop (mkF m 73 #[.val (.int p0_0), .val (.int (1 : Int32)), .val (.ref w0_TRUE), .val (.ref w0_FALSE)] [(.ref w0_FALSE)])) _
      refine st28 _ ?_
      exact k)
    obtain ⟨fs, hr, hrun, hended, hW, hsame⟩ := X28.leave (v := some (.int (1 : Int32))) (fun h => by rw [Bd.returns] at h; cases h)
    refine ⟨_, _, pre29 _ ?_, hrun, hended, _, _, rfl, ?_, ⟨_, rfl⟩, hW, hsame.mono (by decide) (by decide)⟩
    · show Steps p.tables e below (T28.setTop (mkF m 76 #[.val (.int p0_0), .val (.int (1 : Int32)), .val (.ref w0_TRUE), .val (.ref w0_FALSE)] [(.ref w0_TRUE), (.ref w0_FALSE)])) _
      refine Jvm.RoadKit.acmp (g := (mkF m 76 #[.val (.int p0_0), .val (.int (1 : Int32)), .val (.ref w0_TRUE), .val (.ref w0_FALSE)] [(.ref w0_TRUE), (.ref w0_FALSE)])) X28 hx rfl rfl rfl (pc0 := 76) (pc' := 83) (same := false) rfl (hb hby at_76) rfl (decide_eq_false fun q => (Ne.symm ne_w0_TRUE_w0_FALSE) (Value.ref.inj q)) (by decide) (by decide) ?_
      show Steps p.tables e below (T28.setTop (mkF m 83 #[.val (.int p0_0), .val (.int (1 : Int32)), .val (.ref w0_TRUE), .val (.ref w0_FALSE)] [])) _
      refine XS.iconst X28.here hx rfl (hb hby at_83) ?_
      show Steps p.tables e below (T28.setTop (mkF m 84 #[.val (.int p0_0), .val (.int (1 : Int32)), .val (.ref w0_TRUE), .val (.ref w0_FALSE)] [(.int (0 : Int32))])) _
      refine XS.iloadN X28.here hx rfl (hb hby at_84) rfl ?_
      show Steps p.tables e below (T28.setTop (mkF m 85 #[.val (.int p0_0), .val (.int (1 : Int32)), .val (.ref w0_TRUE), .val (.ref w0_FALSE)] [(.int (1 : Int32)), (.int (0 : Int32))])) _
      refine XS.ifYes X28.here hx rfl (pc0 := 85) (pc' := 92) rfl (hb hby at_85) rfl ((if0 _ _).trans (feq (by decide : ¬ ((1 : Int32) = (0 : Int32)))).2) (by decide) (by decide) ?_
      show Steps p.tables e below (T28.setTop (mkF m 92 #[.val (.int p0_0), .val (.int (1 : Int32)), .val (.ref w0_TRUE), .val (.ref w0_FALSE)] [(.int (0 : Int32))])) _
      refine XS.iconst X28.here hx rfl (hb hby at_92) ?_
      show Steps p.tables e below (T28.setTop (mkF m 93 #[.val (.int p0_0), .val (.int (1 : Int32)), .val (.ref w0_TRUE), .val (.ref w0_FALSE)] [(.int (0 : Int32)), (.int (0 : Int32))])) _
      refine XS.icmpNo X28.here hx rfl (hb hby at_93) rfl (teq (by decide : (0 : Int32) = (0 : Int32))).2 ?_
      show Steps p.tables e below (T28.setTop (mkF m 96 #[.val (.int p0_0), .val (.int (1 : Int32)), .val (.ref w0_TRUE), .val (.ref w0_FALSE)] [])) _
      refine XS.aloadN X28.here hx rfl (hb hby at_96) rfl rfl ?_
      show Steps p.tables e below (T28.setTop (mkF m 97 #[.val (.int p0_0), .val (.int (1 : Int32)), .val (.ref w0_TRUE), .val (.ref w0_FALSE)] [(.ref w0_TRUE)])) _
      refine XS.aloadN X28.here hx rfl (hb hby at_97) rfl rfl ?_
      show Steps p.tables e below (T28.setTop (mkF m 98 #[.val (.int p0_0), .val (.int (1 : Int32)), .val (.ref w0_TRUE), .val (.ref w0_FALSE)] [(.ref w0_FALSE), (.ref w0_TRUE)])) _
      refine Jvm.RoadKit.acmp (g := (mkF m 98 #[.val (.int p0_0), .val (.int (1 : Int32)), .val (.ref w0_TRUE), .val (.ref w0_FALSE)] [(.ref w0_FALSE), (.ref w0_TRUE)])) X28 hx rfl rfl rfl (pc0 := 98) (pc' := 101) (same := false) rfl (hb hby at_98) rfl (decide_eq_false fun q => ne_w0_TRUE_w0_FALSE (Value.ref.inj q)) (by decide) (by decide) ?_
      show Steps p.tables e below (T28.setTop (mkF m 101 #[.val (.int p0_0), .val (.int (1 : Int32)), .val (.ref w0_TRUE), .val (.ref w0_FALSE)] [])) _
      refine XS.iconst X28.here hx rfl (hb hby at_101) ?_
      show Steps p.tables e below (T28.setTop (mkF m 102 #[.val (.int p0_0), .val (.int (1 : Int32)), .val (.ref w0_TRUE), .val (.ref w0_FALSE)] [(.int (1 : Int32))])) _
      refine XS.goto X28.here hx rfl (pc0 := 102) (pc' := 106) rfl (hb hby at_102) (by decide) (by decide) ?_
      show Steps p.tables e below (T28.setTop (mkF m 106 #[.val (.int p0_0), .val (.int (1 : Int32)), .val (.ref w0_TRUE), .val (.ref w0_FALSE)] [(.int (1 : Int32))])) _
      exact retN X28 hx (t := .boolean) Bd.returns (by simp) (hb hby at_106) hr
    · show Q0 Z p0_0 w0_FALSE w0_TRUE w0_UNKNOWN h0 n0 _ T28.heap _
      rw [e28]
      exact ⟨rfl, N20⟩
set_option maxRecDepth 65536 in
set_option maxHeartbeats 40000000 in
theorem comes_1 {Post : Tables → Env → Array Value → State → Outcome → State → Prop} (hpost : ∀ tb e args s v u, (limb_1_1.after args s (.returned v) u = true ∧ limb_1_2.after args s (.returned v) u = true ∧ True) → FrameEnd s (.returned v) u (Jvm.fieldLocs frame_1_writes args s ++ Jvm.arrayLocs frame_1_arrays args s ++ Jvm.staticLocs frame_1_statics s) 0 0 → Post tb e args s (.returned v) u) :
    ArmFor flags0 classFile x code maxLocals ret World_1 tables_1 room_1 Calls_1 rest_1 Pre_1 Post := by
  intro l hfl _ _ p e ha hc hk s m args below hf hA hF happ hP
  obtain ⟨hcalls, hrest, hpre⟩ := hP
  obtain ⟨-, -, -, hnamed, -, -, -, hat⟩ := (Spec.applies_iff hf).mp happ
  obtain ⟨hg, hn⟩ := and_e (Cond.before_iff.mp (show (Jvm.Cond.and given_1 narrow_1).before args s = true from hpre))
  obtain ⟨g1, g2⟩ := and_e hg
  obtain ⟨w0, rfl⟩ : ∃ w0 : Value, args = #[w0] := by
    have hs : args.size = 1 := by simpa [Cond.value, given_1] using g1
    obtain ⟨L⟩ := args
    match L, hs with
    | [w0], _ => exact ⟨w0, rfl⟩
  have hw := fun d (hd : d ∈ tables_1) => atoms_spec (ws := Jvm.Cond.code x code maxLocals ret :: tables_1) hat d (List.mem_cons_of_mem _ hd)
  have hfit : Fit s := fun {y c} hc i hi => by
    obtain ⟨ha, rfl⟩ := Array.getElem?_eq_some_iff.mp hc
    have q := List.all_eq_true.mp ((Array.all_eq_true_iff_forall_mem.mp hF) _ (Array.getElem_mem ha)) i (List.mem_range.mpr hi)
    simpa [Array.getElem?_eq_getElem hi] using q
  obtain ⟨i0, ei0⟩ := is_v g2
  obtain rfl : w0 = (.int i0) := Option.some.inj ei0
  obtain ⟨y1, y2⟩ := and_e hn
  obtain ⟨y3, y4⟩ := and_e y2
  obtain ⟨y5, y6⟩ := and_e y4
  obtain ⟨y7, y8⟩ := and_e y6
  obtain ⟨y9, y10⟩ := and_e y8
  obtain ⟨sv_FALSE, ev_FALSE⟩ := exa_v y1
  have XE_FALSE := Exa.start ev_FALSE y1
  have XS_FALSE : Sta s s.heap "com/example/regista/regista/Label$Truth" "FALSE" "Lcom/example/regista/regista/Label$Truth;" (.ref sv_FALSE) := Sta.start ev_FALSE (Or.inr ⟨hw _ (List.mem_of_getElem? (i := 2) rfl), hw _ (List.mem_of_getElem? (i := 5) rfl)⟩)
  obtain ⟨sv_TRUE, ev_TRUE⟩ := exa_v y3
  have XE_TRUE := Exa.start ev_TRUE y3
  have XS_TRUE : Sta s s.heap "com/example/regista/regista/Label$Truth" "TRUE" "Lcom/example/regista/regista/Label$Truth;" (.ref sv_TRUE) := Sta.start ev_TRUE (Or.inr ⟨hw _ (List.mem_of_getElem? (i := 2) rfl), hw _ (List.mem_of_getElem? (i := 7) rfl)⟩)
  obtain ⟨sv_UNKNOWN, ev_UNKNOWN⟩ := exa_v y5
  have XE_UNKNOWN := Exa.start ev_UNKNOWN y5
  have XS_UNKNOWN : Sta s s.heap "com/example/regista/regista/Label$Truth" "UNKNOWN" "Lcom/example/regista/regista/Label$Truth;" (.ref sv_UNKNOWN) := Sta.start ev_UNKNOWN (Or.inr ⟨hw _ (List.mem_of_getElem? (i := 2) rfl), hw _ (List.mem_of_getElem? (i := 9) rfl)⟩)
  have XF_FALSE_ordinal : Fld s s.heap sv_FALSE "java/lang/Enum" "ordinal" "I" (.int (0 : Int32)) := Fld.start ((fld_at ev_FALSE).symm.trans (own_feq y7))
  have XF_UNKNOWN_ordinal : Fld s s.heap sv_UNKNOWN "java/lang/Enum" "ordinal" "I" (.int (1 : Int32)) := Fld.start ((fld_at ev_UNKNOWN).symm.trans (own_feq y9))
  have XF_TRUE_ordinal : Fld s s.heap sv_TRUE "java/lang/Enum" "ordinal" "I" (.int (2 : Int32)) := Fld.start ((fld_at ev_TRUE).symm.trans (own_feq y10))
  obtain ⟨n, o, h1, h2, h3, _, L, rfl, ⟨rfl, N⟩, hq⟩ := rm0 l s _ hw tables_1 i0 sv_FALSE sv_TRUE sv_UNKNOWN s.heap s.heap.size (Nat.le_refl _) (Old.start s) XS_FALSE XS_TRUE XS_UNKNOWN (Fld.ne XF_TRUE_ordinal XF_FALSE_ordinal (by simp)) (Fld.ne XF_TRUE_ordinal XF_UNKNOWN_ordinal (by simp)) (Fld.ne XF_FALSE_ordinal XF_UNKNOWN_ordinal (by simp)) p e ha hc hk s m _ below hf ((Spec.applies_iff_loose hf).mp happ).1 ⟨rfl, State.Warmed39.refl s, rfl⟩ trivial
  refine ⟨n, _, h1, h2, h3, hpost _ _ _ _ _ _ ⟨Cond.after_iff.mpr rfl, Cond.after_iff.mpr (eq_i res_at (Term.int_eval (1)) rfl), trivial⟩ ⟨hq.1, hq.2.1, (hq.2.2.sift fun y hy => Or.inr (N y hy)).mono (by decide) (by decide)⟩⟩
theorem main_1_1 : Claimed_1_1 := comes_1 fun _ _ _ _ _ _ h hF => ⟨h.1, hF⟩
theorem main_1_2 : Claimed_1_2 := comes_1 fun _ _ _ _ _ _ h hF => ⟨h.2.1, hF⟩
end Jvm.Pilot.@@N@@
namespace Jvm.Pilot.@@N@@
open Jvm Jvm.ClassFile Sem Op Lib Jvm.Free Jvm.Stand Jvm.Pilot.@@N@@.Jvm.D
/-! MADE BY PROGRAM (witnessworld.py) out of the Statement's table words and the real class files: 12 classes; the members and pool entries that the words name. The judged class is class 1, her method 1. -/
namespace start1
open Jvm.ClassFile
def u (s : String) : CpInfo := .utf8 (stringToUtf16 s)
/-- a pool by its gaps: so many unusable entries, then the entry; so many at the end -/
def gap : Nat → List CpInfo → List CpInfo
  | 0, r => r
  | n + 1, r => .unusable :: gap n r
def poolList (es : List (Nat × CpInfo)) (last : Nat) : List CpInfo := es.foldr (fun e r => gap e.1 (e.2 :: r)) (gap last [])
def pool (es : List (Nat × CpInfo)) (last : Nat) : Array CpInfo := ⟨poolList es last⟩
def fileOf (pool : Array CpInfo) (this : Nat) (attrs : Array Attribute := #[]) (ms : Array MethodInfo := #[]) (fl : Nat := 33) (sup : Nat := 0) (ifs : Array Nat := #[]) (fds : Array FieldInfo := #[]) : ClassFile where
  minorVersion := 0
  majorVersion := 65
  constantPool := pool
  accessFlags := fl
  thisClass := this
  superClass := sup
  interfaces := ifs
  fields := fds
  methods := ms
  attributes := attrs
def plain (name : String) (sup : Option ClassId) : Class where
  name := name
  kind := .ordinary
  loader := none
  accessFlags := 33
  super := sup
  interfaces := #[]
  cf := none
  fields := #[]
  methods := #[]
  instanceTypes := #[]
  staticTypes := #[]
  resolved := #[]
  callSites := []
  init := .initialized
  statics := none
  mirror := none

def pool0 : Array CpInfo := pool [(5, u "<init>"), (0, u "()V"), (1, .class_ 10), (1, u "java/lang/Object")] 113

def k0m0 : Method := { name := "<init>", desc := "()V", sig := { parameters := [], returnType := none }, accessFlags := 1, code := none }
/-- java/lang/Object -/
def k0 : Class := { plain "java/lang/Object" none with
  accessFlags := 33
  interfaces := #[]
  cf := some (fileOf pool0 8 #[] #[{ accessFlags := 1, nameIndex := 5, descriptorIndex := 6, attributes := #[] }] 33 0 #[] #[])
  fields := #[]
  methods := #[k0m0]
  instanceTypes := #[]
  staticTypes := #[]
  resolved := Array.replicate 124 none
  statics := none }

def pool1 : Array CpInfo := pool [(2, .class_ 4), (1, u "java/lang/Object"), (0, u "<init>"), (0, u "()V"), (0, .methodref 8 9), (0, .class_ 10), (0, .nameAndType 11 12), (0, u "com/example/regista/regista/Label$Truth"), (0, u "of"), (0, u "(Z)Lcom/example/regista/regista/Label$Truth;"), (0, .fieldref 8 14), (0, .nameAndType 15 16), (0, u "UNKNOWN"), (0, u "Lcom/example/regista/regista/Label$Truth;"), (0, .fieldref 8 18), (0, .nameAndType 19 16), (0, u "TRUE"), (0, .class_ 21), (0, u "com/example/regista/regista/TruthOfPinLaw"), (2, u "law"), (0, u "(I)Z")] 7

def k1m0 : Method := { name := "<init>", desc := "()V", sig := { parameters := [], returnType := none }, accessFlags := 1, code := none }
def k1c1 : Code := { maxStack := 2, maxLocals := 4, code := code, exceptionTable := #[], attributes := #[] }
def k1m1 : Method := { name := "law", desc := "(I)Z", sig := { parameters := [.int], returnType := some .boolean }, accessFlags := 9, code := some k1c1 }
/-- com/example/regista/regista/TruthOfPinLaw -/
def k1 : Class := { plain "com/example/regista/regista/TruthOfPinLaw" (some 0) with
  accessFlags := 49
  interfaces := #[]
  cf := some (fileOf pool1 20 #[] #[{ accessFlags := 1, nameIndex := 5, descriptorIndex := 6, attributes := #[] }, { accessFlags := 9, nameIndex := 24, descriptorIndex := 25, attributes := #[] }] 49 2 #[] #[])
  fields := #[]
  methods := #[k1m0, k1m1]
  instanceTypes := #[]
  staticTypes := #[]
  resolved := Array.replicate 33 none
  statics := none }

def pool2 : Array CpInfo := pool [(1, .class_ 2), (0, u "java/lang/constant/Constable"), (0, .class_ 4), (0, u "java/lang/Object")] 6

/-- java/lang/constant/Constable -/
def k2 : Class := { plain "java/lang/constant/Constable" (some 0) with
  accessFlags := 1537
  interfaces := #[]
  cf := some (fileOf pool2 1 #[] #[] 1537 3 #[] #[])
  fields := #[]
  methods := #[]
  instanceTypes := #[]
  staticTypes := #[]
  resolved := Array.replicate 11 none
  statics := none }

def pool3 : Array CpInfo := pool [(1, .class_ 2), (0, u "java/lang/Comparable"), (0, .class_ 4), (0, u "java/lang/Object")] 7

/-- java/lang/Comparable -/
def k3 : Class := { plain "java/lang/Comparable" (some 0) with
  accessFlags := 1537
  interfaces := #[]
  cf := some (fileOf pool3 1 #[] #[] 1537 3 #[] #[])
  fields := #[]
  methods := #[]
  instanceTypes := #[]
  staticTypes := #[]
  resolved := Array.replicate 12 none
  statics := none }

def pool4 : Array CpInfo := pool [(1, .class_ 2), (0, u "java/io/Serializable"), (0, .class_ 4), (0, u "java/lang/Object")] 2

/-- java/io/Serializable -/
def k4 : Class := { plain "java/io/Serializable" (some 0) with
  accessFlags := 1537
  interfaces := #[]
  cf := some (fileOf pool4 1 #[] #[] 1537 3 #[] #[])
  fields := #[]
  methods := #[]
  instanceTypes := #[]
  staticTypes := #[]
  resolved := Array.replicate 7 none
  statics := none }

def pool5 : Array CpInfo := pool [(2, .class_ 4), (1, u "java/lang/Enum"), (0, u "name"), (0, u "Ljava/lang/String;"), (2, u "ordinal"), (0, u "I"), (1, .class_ 14), (1, u "java/lang/Object"), (4, u "hash"), (86, .class_ 108), (1, u "java/lang/Enum$EnumDesc"), (2, .class_ 112), (0, u "java/lang/constant/Constable"), (0, .class_ 114), (0, u "java/lang/Comparable"), (0, .class_ 116), (0, u "java/io/Serializable")] 87

/-- java/lang/Enum -/
def k5 : Class := { plain "java/lang/Enum" (some 0) with
  accessFlags := 1057
  interfaces := #[2, 3, 4]
  cf := some (fileOf pool5 2 #[.nestMembers #[106]] #[] 1057 12 #[111, 113, 115] #[{ accessFlags := 18, nameIndex := 5, descriptorIndex := 6, attributes := #[] }, { accessFlags := 18, nameIndex := 9, descriptorIndex := 10, attributes := #[] }, { accessFlags := 2, nameIndex := 19, descriptorIndex := 10, attributes := #[] }])
  fields := #[{ name := "name", type := (.object "java/lang/String"), accessFlags := 18, slot := 0, constantValue := 0 }, { name := "ordinal", type := .int, accessFlags := 18, slot := 1, constantValue := 0 }, { name := "hash", type := .int, accessFlags := 2, slot := 2, constantValue := 0 }]
  methods := #[]
  instanceTypes := #[(.object "java/lang/String"), .int, .int]
  staticTypes := #[]
  resolved := Array.replicate 204 none
  statics := none }

def pool6 : Array CpInfo := pool [(1, .class_ 2), (0, u "com/example/regista/regista/Label$Truth"), (0, .fieldref 1 4), (0, .nameAndType 5 6), (0, u "FALSE"), (0, u "Lcom/example/regista/regista/Label$Truth;"), (2, u "UNKNOWN"), (0, .fieldref 1 11), (0, .nameAndType 12 6), (0, u "TRUE"), (2, u "$VALUES"), (0, u "[Lcom/example/regista/regista/Label$Truth;"), (6, .class_ 25), (1, u "java/lang/Enum"), (21, u "of"), (0, u "(Z)Lcom/example/regista/regista/Label$Truth;"), (6, .class_ 56), (0, u "com/example/regista/regista/Label")] 2

def k6c0 : Code := { maxStack := 1, maxLocals := 1, code := prog_34_method_4_code, exceptionTable := #[], attributes := #[] }
def k6m0 : Method := { name := "of", desc := "(Z)Lcom/example/regista/regista/Label$Truth;", sig := { parameters := [.boolean], returnType := some (.object "com/example/regista/regista/Label$Truth") }, accessFlags := 8, code := some k6c0 }
/-- com/example/regista/regista/Label$Truth -/
def k6 : Class := { plain "com/example/regista/regista/Label$Truth" (some 5) with
  accessFlags := 16433
  interfaces := #[]
  cf := some (fileOf pool6 1 #[.nestHost 55] #[{ accessFlags := 8, nameIndex := 47, descriptorIndex := 48, attributes := #[] }] 16433 23 #[] #[{ accessFlags := 16409, nameIndex := 5, descriptorIndex := 6, attributes := #[] }, { accessFlags := 16409, nameIndex := 9, descriptorIndex := 6, attributes := #[] }, { accessFlags := 16409, nameIndex := 12, descriptorIndex := 6, attributes := #[] }, { accessFlags := 4122, nameIndex := 15, descriptorIndex := 16, attributes := #[] }])
  fields := #[{ name := "FALSE", type := (.object "com/example/regista/regista/Label$Truth"), accessFlags := 16409, slot := 0, constantValue := 0 }, { name := "UNKNOWN", type := (.object "com/example/regista/regista/Label$Truth"), accessFlags := 16409, slot := 1, constantValue := 0 }, { name := "TRUE", type := (.object "com/example/regista/regista/Label$Truth"), accessFlags := 16409, slot := 2, constantValue := 0 }, { name := "$VALUES", type := (.array (.object "com/example/regista/regista/Label$Truth")), accessFlags := 4122, slot := 3, constantValue := 0 }]
  methods := #[k6m0]
  instanceTypes := #[(.object "java/lang/String"), .int, .int]
  staticTypes := #[(.object "com/example/regista/regista/Label$Truth"), (.object "com/example/regista/regista/Label$Truth"), (.object "com/example/regista/regista/Label$Truth"), (.array (.object "com/example/regista/regista/Label$Truth"))]
  resolved := Array.replicate 59 none
  statics := some 0 }

def pool7 : Array CpInfo := pool [(1, u "java/lang/Cloneable"), (0, .class_ 1), (0, u "java/lang/Object"), (0, .class_ 3)] 3

/-- java/lang/Cloneable -/
def k7 : Class := { plain "java/lang/Cloneable" (some 0) with
  accessFlags := 1537
  interfaces := #[]
  cf := some (fileOf pool7 2 #[] #[] 1537 4 #[] #[])
  fields := #[]
  methods := #[]
  instanceTypes := #[]
  staticTypes := #[]
  resolved := Array.replicate 8 none
  statics := none }

/-- the primitive byte -/
def k8 : Class := { plain "byte" none with kind := .primitive 'B', accessFlags := 0x411 }
/-- [B -/
def k9 : Class := { plain "[B" (some 0) with kind := .array 8 .byte, interfaces := #[7, 4], accessFlags := 1041 }

/-- the primitive int -/
def k10 : Class := { plain "int" none with kind := .primitive 'I', accessFlags := 0x411 }
/-- [I -/
def k11 : Class := { plain "[I" (some 0) with kind := .array 10 .int, interfaces := #[7, 4], accessFlags := 1041 }

def heap : Heap := #[{ cls := 6, slots := #[.ref 1, .ref 2, .ref 3, .null], vm := .statics 6 },
  { cls := 6, slots := #[.null, .int 0, .int 0], vm := .none },
  { cls := 6, slots := #[.null, .int 1, .int 0], vm := .none },
  { cls := 6, slots := #[.null, .int 2, .int 0], vm := .none }]
def classes : Array Class := #[k0, k1, k2, k3, k4, k5, k6, k7, k8, k9, k10, k11]
def interned : List (Array UInt16 × Addr) := []
def slotsUsed : Nat := 13
def theMethod : MethodId := ⟨1, 1⟩
def args0 : Array Value := #[.int 5]
def aboutOver (below : List Frame) : State where
  vm := { classes := classes, interned := interned.toArray }
  heap := heap
  slotsUsed := slotsUsed
  threads := #[{ frames := .invoking theMethod args0 :: below }]
def below0 : List Frame := [.native { method := ⟨0, 0⟩, args := #[] }]
def about1 : State := aboutOver below0
def p0 : Program := .bare "" "" ""
def e0 : Env := launch0.env 0 0 0
theorem w_frames : about1.frames = Frame.invoking theMethod args0 :: below0 := rfl
set_option maxRecDepth 65536 in
theorem w_args : argsFit about1.vm theMethod args0 = true := by decide +kernel
set_option maxRecDepth 65536 in
theorem w_heap : heapFits about1 = true := by decide +kernel
set_option maxRecDepth 65536 in
theorem w_runnable : about1.curStatus? = some .runnable := by decide +kernel
set_option maxRecDepth 65536 in
theorem w_alone : about1.alone = true := by decide +kernel
set_option maxRecDepth 65536 in
theorem w_named : about1.methodNamed? x = some theMethod := by decide +kernel
set_option maxRecDepth 65536 in
theorem w_hears : about1.hears theMethod below0 = true := by decide +kernel
set_option maxRecDepth 65536 in
theorem w_ripe : about1.ripe theMethod args0 below0 = true := by decide +kernel
theorem w_running : about1.status = .running := rfl
set_option maxRecDepth 65536 in
theorem w_room : about1.hasRoom e0.platform room_1 = true :=
  launch0.hasRoom_least _ room_1 (by decide +kernel) (by decide +kernel) (by decide +kernel) (by decide +kernel) (by decide +kernel) (by decide +kernel)
theorem allAtoms_all (ts : List Jvm.Cond) (a : Array Jvm.Value) (st : Jvm.State) : (allAtoms ts).before a st = ts.all (fun c => c.before a st) := by
  induction ts with
  | nil => rfl
  | cons c t ih =>
    show (Jvm.Cond.and c (allAtoms t)).before a st = _
    rw [Jvm.Cond.before_and, ih, List.all_cons]
def words1 : List Jvm.Cond := Jvm.Cond.code x code maxLocals ret :: tables_1
/-- a 'code' word, met by the world's own term for the bytes: nothing is compared byte by byte -/
theorem code_word {y : MethodName} {bytes : ByteArray} {mx : Nat} {rt : Option FieldType} {a : Array Value} {s : State} {m : MethodId} {meth : Method} {c : Code} (h1 : s.methodNamed? y = some m) (h2 : s.vm.method? m = some meth) (h3 : meth.code = some c) (h4 : c.code = bytes)
    (h5 : (c.maxLocals == mx && c.exceptionTable.isEmpty && decide (c.maxStack ≤ mostOperands) && decide (meth.sig.returnType = rt) && !meth.locks && decide (parseMethodDescriptor y.desc = some meth.sig)) = true) : (Jvm.Cond.code y bytes mx rt).before a s = true := by
  simp only [Bool.and_eq_true, beq_iff_eq, Bool.not_eq_true', decide_eq_true_eq] at h5
  obtain ⟨⟨⟨⟨⟨g1, g2⟩, g3⟩, g4⟩, g5⟩, g6⟩ := h5
  simp [Cond.before, Cond.holds, Cond.value, h1, h2, h3, h4, g1, g2, g3, g4, g5, g6]
def isCode : Jvm.Cond → Bool
  | .code _ _ _ _ => true
  | _ => false
theorem all_split {L : List Jvm.Cond} {P : Jvm.Cond → Bool} (h1 : L.all (fun c => isCode c || P c) = true) (h2 : ∀ c ∈ L.filter isCode, P c = true) : L.all P = true := by
  refine List.all_eq_true.mpr fun c hc => ?_
  have h := List.all_eq_true.mp h1 c hc
  rcases Bool.eq_false_or_eq_true (isCode c) with hi | hi
  · exact h2 c (List.mem_filter.mpr ⟨hc, hi⟩)
  · simpa [hi] using h
set_option maxRecDepth 65536 in
theorem w_c0 : (Jvm.Cond.code x code maxLocals ret).before args0 about1 = true := code_word (m := ⟨1, 1⟩) (meth := k1m1) (c := k1c1) (by decide +kernel) rfl rfl rfl (by decide +kernel)
set_option maxRecDepth 65536 in
theorem w_c1 : (Jvm.Cond.code ({ cls := "com/example/regista/regista/Label$Truth", name := "of", desc := "(Z)Lcom/example/regista/regista/Label$Truth;" } : Jvm.MethodName) prog_34_method_4_code (1 : Nat) (Option.some (Jvm.ClassFile.FieldType.object "com/example/regista/regista/Label$Truth"))).before args0 about1 = true := code_word (m := ⟨6, 0⟩) (meth := k6m0) (c := k6c0) (by decide +kernel) rfl rfl rfl (by decide +kernel)
def codes1 : List Jvm.Cond := [Jvm.Cond.code x code maxLocals ret, Jvm.Cond.code ({ cls := "com/example/regista/regista/Label$Truth", name := "of", desc := "(Z)Lcom/example/regista/regista/Label$Truth;" } : Jvm.MethodName) prog_34_method_4_code (1 : Nat) (Option.some (Jvm.ClassFile.FieldType.object "com/example/regista/regista/Label$Truth"))]
set_option maxRecDepth 65536 in
theorem codes_eq : words1.filter isCode = codes1 := rfl
theorem w_codes : ∀ c ∈ words1.filter isCode, c.before args0 about1 = true := by
  rw [codes_eq]
  intro c hc
  simp only [codes1, List.mem_cons, List.not_mem_nil, or_false] at hc
  rcases hc with rfl | rfl
  · exact w_c0
  · exact w_c1
set_option maxRecDepth 65536 in
theorem w_t1 : words1.all (fun c => isCode c || c.before args0 about1) = true := by decide +kernel
theorem w_tables : (allAtoms (Jvm.Cond.code x code maxLocals ret :: tables_1)).before args0 about1 = true := by
  rw [allAtoms_all]
  show words1.all (fun c => c.before args0 about1) = true
  refine all_split ?_ w_codes
  rw [w_t1]
set_option maxRecDepth 65536 in
theorem w_case : (Jvm.Cond.and given_1 narrow_1).before args0 about1 = true := by decide +kernel
theorem w_applies : (headSpec (Jvm.Cond.code x code maxLocals ret :: tables_1) room_1).applies x e0.platform about1 = true :=
  (Spec.applies_iff w_frames).mpr ⟨w_running, w_runnable, w_alone, w_named, w_hears, w_ripe, w_room, w_tables⟩
theorem atStart : AtStart classFile x code maxLocals ret World_1 tables_1 room_1 Calls_1 rest_1 Pre_1 launch0 p0 e0 about1 theMethod args0 below0 :=
  ⟨lists_1, trivial, launch0.admits_env _ _ _, launch0.least_env, fairChoices_fair.cas, fairChoices_fair.clock, w_frames, w_args, w_heap, w_applies, trivial, trivial, w_case⟩
end start1
theorem witness_1 : WitnessClaimed_1 := ⟨start1.p0, start1.e0, start1.about1, start1.theMethod, start1.args0, start1.below0, start1.atStart⟩
end Jvm.Pilot.@@N@@
