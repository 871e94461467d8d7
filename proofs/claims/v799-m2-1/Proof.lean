import JvmDerived
import JvmDerived.Pilot.@@N@@Statement
import JvmDerived.Pilot.@@N@@Code
set_option linter.unusedVariables false
set_option linter.unusedSimpArgs false
namespace Jvm.RoadKit
open Sem ClassFile Op Lib Jvm.Stand Jvm.Free Jvm.LawKit
section New
variable {p : Program} {l : Launch} {e : Env} {R : Room} {s : State} {m : MethodId} {args : Array Value} {below : List Frame} {meth : Method} {c : Code} {T : State} {locs : List Loc} {cells slots : Nat}
theorem retI (X : Stand p l e R s m args below meth c T locs cells slots) (hx : p.tables.exec = Jvm.exec) {pc : Nat} {Ls : Array Slot} {z : Int32} {rest : List Value} (hret : meth.sig.returnType = some .int) (hd : decode c.code pc = .ok (.ireturn, 1)) {fs : List Frame}
    (hl : ∀ (f : JFrame) (acts : List Action), f.method = m → f.locked = none → f.entered = [] → (doReturn e (T.setTop f) acts (some (.int z))).1 = T.setFrames fs) : Steps p.tables e below (T.setTop (mkF m pc Ls (.int z :: rest))) (T.setFrames fs) := by
  have hm' : T.vm.method? m = some meth := X.method'
  have hn : narrow .int (.int z) = .int z := rfl
  show Steps p.tables e below (T.setTop { method := m, pc := pc, locals := Ls, stack := _ :: rest, locked := none }) _
  jvm_step X.here [X.here.top, hx, hd, hm', hret, hn]
  first | (intro acts; rw [hl _ acts rfl rfl rfl]) | rw [hl _ _ rfl rfl rfl]
  exact Steps.refl _
end New
end Jvm.RoadKit
namespace Jvm.Pilot.@@N@@
open Jvm Jvm.ClassFile Sem Op Lib Jvm.Free Jvm.Stand Jvm.LawKit Jvm.RoadKit Bundle Jvm.Pilot.@@N@@.Jvm.D
/-- a boolean of the law's, as the int that the machine holds -/
def bI (P : Prop) [Decidable P] : Int32 := if P then 1 else 0
theorem bI_t {P : Prop} [Decidable P] (h : P) : bI P = (1 : Int32) := if_pos h
theorem bI_f {P : Prop} [Decidable P] (h : ¬ P) : bI P = (0 : Int32) := if_neg h
theorem bI_n {P : Prop} [Decidable P] (h : P) : ¬ (bI P = (0 : Int32)) := by rw [bI_t h]; decide
theorem bI_iff {P Q : Prop} [Decidable P] [Decidable Q] (h : P ↔ Q) : bI P = bI Q := by
  by_cases p : P
  · rw [bI_t p, bI_t (h.mp p)]
  · rw [bI_f p, bI_f fun q => p (h.mpr q)]
theorem bI_nar {P : Prop} [Decidable P] : nar .boolean (bI P) = bI P := by
  by_cases p : P
  · rw [bI_t p]; rfl
  · rw [bI_f p]; rfl
theorem own_mask (x : Int64) : 0 ≤ (x &&& (9223372036854775807 : Int64)).toInt := by
  rw [c_maskL x 9223372036854775807 63 (by decide) (by decide)]
  exact Int.emod_nonneg _ (by decide)
theorem own_max : (9223372036854775807 : Int64).toInt = 9223372036854775807 := by decide
theorem own_fin (off lim : Int64) (h : 0 ≤ off.toInt) : bI (((0 : Int64) < off) ∨ (lim < (9223372036854775807 : Int64))) = bI (¬ (off = (0 : Int64)) ∨ (¬ (lim = (9223372036854775807 : Int64)))) := by
  have e0 : (0 : Int64).toInt = 0 := by decide
  have r := rng64 lim
  refine bI_iff ⟨fun q => ?_, fun q => ?_⟩
  · rcases q with q | q
    · exact Or.inl fun e => by rw [e] at q; rw [Int64.lt_iff_toInt_lt] at q; omega
    · exact Or.inr fun e => by rw [e] at q; rw [Int64.lt_iff_toInt_lt] at q; omega
  · rcases q with q | q
    · refine Or.inl ?_
      rw [Int64.lt_iff_toInt_lt, e0]
      have : off.toInt ≠ 0 := fun e => q (Int64.toInt_inj.mp (e.trans e0.symm))
      omega
    · refine Or.inr ?_
      rw [Int64.lt_iff_toInt_lt, own_max]
      have : lim.toInt ≠ 9223372036854775807 := fun e => q (Int64.toInt_inj.mp (e.trans own_max.symm))
      omega
theorem d3_0 : decode jdk_22_method_1_code 0 = .ok (.aload_n 0, 1) := by decide +kernel
theorem d3_1 : decode jdk_22_method_1_code 1 = .ok (.invokespecial 1, 3) := by decide +kernel
theorem d3_4 : decode jdk_22_method_1_code 4 = .ok (.return_, 1) := by decide +kernel
theorem pn_3 : plainName "java/util/AbstractCollection" = true := by first | (simp [plainName, overriddenIn]; done) | decide +kernel
theorem ef_3 (m : MethodId) (x0 : Addr) : entryFrame m #[(.ref x0)] 1 = mkF m 0 #[.val (.ref x0)] [] := by first | (simp [entryFrame, mkF, argsToLocals, Value.category]; done) | rfl
def Q3 (Z : State) (a3_0 : Addr) (h0 : Heap) (n0 : Nat) (v : Option Value) (h : Heap) (L : List Loc) : Prop := v = none ∧ Fr n0 L ∧ h = h0
set_option maxRecDepth 65536 in
set_option maxHeartbeats 40000000 in
theorem rm3 (l : Launch) (Z : State) (a0 : Array Value) (hw : ∀ d ∈ tables_1, d.before a0 Z = true) (ws : List Jvm.Cond) (a3_0 : Addr) (h0 : Heap) (n0 : Nat) (Z0 : n0 ≤ h0.size) :
    MetFree l (⟨"java/util/AbstractCollection", "<init>", "()V"⟩ : MethodName) (head1 (Jvm.Cond.code (⟨"java/util/AbstractCollection", "<init>", "()V"⟩ : MethodName) jdk_22_method_1_code 1 none :: ws) ({ frames := 1, cells := 0, slots := 0, locals := 12 } : Room)) (fun a U => a = #[(.ref a3_0)] ∧ Z.Warmed39 U.vm ∧ U.heap = h0) (fun _ _ _ _ _ => True) (fun _ U o U' => ∃ v L, o = .returned v ∧ Q3 Z a3_0 h0 n0 v U'.heap L ∧ FrameEnd U o U' L ({ frames := 1, cells := 0, slots := 0, locals := 12 } : Room).cells ({ frames := 1, cells := 0, slots := 0, locals := 12 } : Room).slots) := by
  refine MetFree.of_bodySF (plainFor_of_name pn_3) hisR ?_
  intro p e s m args below meth c s₁ Bd hml0 hP hK
  obtain ⟨rfl, hZ, hh⟩ := hP
  have hVV : ∀ (i : Nat) (d : Jvm.Cond), tables_1[i]? = some d → d.before a0 Z = true := fun i d h => hw d (List.mem_of_getElem? h)
  have hx := Bd.exec
  have hby := Bd.bytes
  have hml : c.maxLocals = 1 := hml0
  have hown : s.vm.findClass "java/util/AbstractCollection" = some m.cls := findClass_of_methodNamed Bd.named
  have hnm := (name_of_methodNamed Bd.named Bd.method).1
  have X0 : Stand p l e ({ frames := 1, cells := 0, slots := 0, locals := 12 } : Room) s m #[(.ref a3_0)] below meth c s₁ [] 0 0 := Stand.of_body Bd
  have e0 : s₁.heap = h0 := by rw [← hh, Bd.state]; rfl
  have N0 := Fr.nil n0
  have pre0 : ∀ t, Steps p.tables e below (s₁.setTop (mkF m 0 #[.val (.ref a3_0)] [])) t → Steps p.tables e below (s₁.setTop (entryFrame m #[(.ref a3_0)] 1)) t := fun t k => castTop (ef_3 m a3_0) k
  obtain ⟨T1, X1, e1, st1⟩ := initO X0 hx hZ hown (hVV 22 _ rfl) (hVV 23 _ rfl) (hVV 24 _ rfl) e0 (g := (mkF m 1 #[.val (.ref a3_0)] [(.ref a3_0)])) rfl (by rw [hml]; rfl) rfl (hb hby d3_1) (by decide) (W := 0) (by show 2 * 0 + _ ≤ _; exact Nat.le_of_eq rfl) (by decide)
  have pre2 : ∀ t, Steps p.tables e below (T1.setTop (mkF m 4 #[.val (.ref a3_0)] [])) t → Steps p.tables e below (s₁.setTop (entryFrame m #[(.ref a3_0)] 1)) t := fun t k => pre0 t (by
    show Steps p.tables e below (s₁.setTop (mkF m 0 #[.val (.ref a3_0)] [])) _
    refine XS.aloadN X0.here hx rfl (hb hby d3_0) rfl rfl ?_
    show Steps p.tables e below (s₁.setTop (mkF m 1 #[.val (.ref a3_0)] [(.ref a3_0)])) _
    refine st1 _ ?_
    exact k)
  obtain ⟨fs, hr, hrun, hended, hW, hsame⟩ := X1.leave (v := none) (fun _ => rfl)
  refine ⟨_, _, pre2 _ ?_, hrun, hended, _, _, rfl, ?_, ⟨_, rfl⟩, hW, hsame.mono (by decide) (by decide)⟩
  · show Steps p.tables e below (T1.setTop (mkF m 4 #[.val (.ref a3_0)] [])) _
    exact X1.returnOut hx Bd.returns (hb hby d3_4) hr
  · show Q3 Z a3_0 h0 n0 _ T1.heap _
    rw [e1]
    exact ⟨rfl, N0, rfl⟩
theorem pd_0 : parseMethodDescriptor "()V" = some ⟨[], none⟩ := by decide +kernel
theorem d2_0 : decode jdk_39_method_1_code 0 = .ok (.aload_n 0, 1) := by decide +kernel
theorem d2_1 : decode jdk_39_method_1_code 1 = .ok (.invokespecial 1, 3) := by decide +kernel
theorem d2_4 : decode jdk_39_method_1_code 4 = .ok (.aload_n 0, 1) := by decide +kernel
theorem d2_5 : decode jdk_39_method_1_code 5 = .ok (.iconst 0, 1) := by decide +kernel
theorem d2_6 : decode jdk_39_method_1_code 6 = .ok (.putfield 7, 3) := by decide +kernel
theorem d2_9 : decode jdk_39_method_1_code 9 = .ok (.return_, 1) := by decide +kernel
theorem pn_2 : plainName "java/util/AbstractList" = true := by first | (simp [plainName, overriddenIn]; done) | decide +kernel
theorem ef_2 (m : MethodId) (x0 : Addr) : entryFrame m #[(.ref x0)] 1 = mkF m 0 #[.val (.ref x0)] [] := by first | (simp [entryFrame, mkF, argsToLocals, Value.category]; done) | rfl
def Q2 (Z : State) (a2_0 : Addr) (w2_modCount_a2_0 : Int32) (w2_elementData_a2_0 : Value) (h0 : Heap) (n0 : Nat) (v : Option Value) (h : Heap) (L : List Loc) : Prop := v = none ∧ Fr n0 L ∧ Keep h0 h [a2_0] ∧ Exa Z h a2_0 "java/util/ArrayList" ∧ Fld Z h a2_0 "java/util/ArrayList" "elementData" "[Ljava/lang/Object;" w2_elementData_a2_0 ∧ Fld Z h a2_0 "java/util/AbstractList" "modCount" "I" (.int (0 : Int32))
set_option maxRecDepth 65536 in
set_option maxHeartbeats 40000000 in
theorem rm2 (l : Launch) (Z : State) (a0 : Array Value) (hw : ∀ d ∈ tables_1, d.before a0 Z = true) (ws : List Jvm.Cond) (a2_0 : Addr) (w2_modCount_a2_0 : Int32) (w2_elementData_a2_0 : Value) (h0 : Heap) (n0 : Nat) (Z0 : n0 ≤ h0.size) (E_a2_0 : Exa Z h0 a2_0 "java/util/ArrayList") (F_modCount_a2_0 : Fld Z h0 a2_0 "java/util/AbstractList" "modCount" "I" (.int w2_modCount_a2_0)) (F_elementData_a2_0 : Fld Z h0 a2_0 "java/util/ArrayList" "elementData" "[Ljava/lang/Object;" w2_elementData_a2_0) (g_a2_0 : n0 ≤ a2_0) :
    MetFree l (⟨"java/util/AbstractList", "<init>", "()V"⟩ : MethodName) (head1 (Jvm.Cond.code (⟨"java/util/AbstractList", "<init>", "()V"⟩ : MethodName) jdk_39_method_1_code 1 none :: ws) ({ frames := 2, cells := 0, slots := 0, locals := 24 } : Room)) (fun a U => a = #[(.ref a2_0)] ∧ Z.Warmed39 U.vm ∧ U.heap = h0) (fun _ _ _ _ _ => True) (fun _ U o U' => ∃ v L, o = .returned v ∧ Q2 Z a2_0 w2_modCount_a2_0 w2_elementData_a2_0 h0 n0 v U'.heap L ∧ FrameEnd U o U' L ({ frames := 2, cells := 0, slots := 0, locals := 24 } : Room).cells ({ frames := 2, cells := 0, slots := 0, locals := 24 } : Room).slots) := by
  refine MetFree.of_bodySF (plainFor_of_name pn_2) hisR ?_
  intro p e s m args below meth c s₁ Bd hml0 hP hK
  obtain ⟨rfl, hZ, hh⟩ := hP
  have hVV : ∀ (i : Nat) (d : Jvm.Cond), tables_1[i]? = some d → d.before a0 Z = true := fun i d h => hw d (List.mem_of_getElem? h)
  have hx := Bd.exec
  have hby := Bd.bytes
  have hml : c.maxLocals = 1 := hml0
  have hown : s.vm.findClass "java/util/AbstractList" = some m.cls := findClass_of_methodNamed Bd.named
  have hnm := (name_of_methodNamed Bd.named Bd.method).1
  have X0 : Stand p l e ({ frames := 2, cells := 0, slots := 0, locals := 24 } : Room) s m #[(.ref a2_0)] below meth c s₁ [] 0 0 := Stand.of_body Bd
  have e0 : s₁.heap = h0 := by rw [← hh, Bd.state]; rfl
  have N0 := Fr.nil n0
  have pre0 : ∀ t, Steps p.tables e below (s₁.setTop (mkF m 0 #[.val (.ref a2_0)] [])) t → Steps p.tables e below (s₁.setTop (entryFrame m #[(.ref a2_0)] 1)) t := fun t k => castTop (ef_2 m a2_0) k
  obtain ⟨_, _, ⟨T1, L1, k1, n1⟩, -, X1, ⟨Lc1, hQ1, l1, y1, z1⟩, st1⟩ := X0.specialBack hx (y := (⟨"java/util/AbstractCollection", "<init>", "()V"⟩ : MethodName)) rfl hown (mvT hZ (hVV 16 _ rfl)) (mvT hZ (hVV 17 _ rfl)) (mvT hZ (hVV 21 _ rfl)) (by decide) (backOf (W := 0) (rm3 l Z a0 hw [] a2_0 h0 n0 Z0 ) hZ (hVV 21 _ rfl) (hVV 20 _ rfl) (by decide) (by decide)) (g := (mkF m 1 #[.val (.ref a2_0)] [(.ref a2_0)])) rfl (by rw [hml]; rfl) (Steps.refl _) (a := a2_0) (argsL := []) (rest := []) (lenOf pd_0 rfl) rfl (by show 2 * 0 + _ ≤ _; exact Nat.le_of_eq rfl) (hb hby d2_1) (fun _ _ => ⟨rfl, e0, (by decide : 0 + 0 ≤ _), (by decide : 0 + 0 ≤ _)⟩)
  dsimp only [Pt.U, Pt.locs, Pt.cells, Pt.slots] at X1 l1 y1 z1 st1 hQ1
  subst l1 y1 z1
  obtain ⟨rfl, N1q, e1⟩ := hQ1
  have N2 := Fr.app N0 N1q
  have pre3 : ∀ t, Steps p.tables e below (T1.setTop (mkF m 4 #[.val (.ref a2_0)] [])) t → Steps p.tables e below (s₁.setTop (entryFrame m #[(.ref a2_0)] 1)) t := fun t k => pre0 t (by
    show Steps p.tables e below (s₁.setTop (mkF m 0 #[.val (.ref a2_0)] [])) _
    refine XS.aloadN X0.here hx rfl (hb hby d2_0) rfl rfl ?_
    show Steps p.tables e below (s₁.setTop (mkF m 1 #[.val (.ref a2_0)] [(.ref a2_0)])) _
    refine st1.trans ?_
    exact k)
  obtain ⟨T4, h4, X4, e4, W4, st4⟩ := putF X1 hx hZ hown (host := "") (Or.inl (hVV 25 _ rfl)) Via.refl e1 F_modCount_a2_0 E_a2_0 (Or.inl (hVV 26 _ rfl)) (hVV 5 _ rfl) (ty := .int) (by decide) rfl rfl (g := (mkF m 6 #[.val (.ref a2_0)] [(.int (0 : Int32)), (.ref a2_0)])) rfl rfl (hb hby d2_6)
  have pre5 : ∀ t, Steps p.tables e below (T4.setTop (mkF m 9 #[.val (.ref a2_0)] [])) t → Steps p.tables e below (s₁.setTop (entryFrame m #[(.ref a2_0)] 1)) t := fun t k => pre3 t (by
    show Steps p.tables e below (T1.setTop (mkF m 4 #[.val (.ref a2_0)] [])) _
    refine XS.aloadN X1.here hx rfl (hb hby d2_4) rfl rfl ?_
    show Steps p.tables e below (T1.setTop (mkF m 5 #[.val (.ref a2_0)] [(.ref a2_0)])) _
    refine XS.iconst X1.here hx rfl (hb hby d2_5) ?_
    show Steps p.tables e below (T1.setTop (mkF m 6 #[.val (.ref a2_0)] [(.int (0 : Int32)), (.ref a2_0)])) _
    refine st4 _ ?_
    exact k)
  have f6 := E_a2_0.wr W4
  have f7 := F_elementData_a2_0.other W4 (Or.inr (slot_ne (Or.inl (hVV 29 _ rfl)) (Or.inl (hVV 26 _ rfl)) (by decide) (t := (.array (.object "java/lang/Object"))) (t' := .int) (by decide) (by decide)))
  have z8 := Nat.le_trans Z0 (Keep.of_wr W4).1
  have k9 := (Keep.refl h0 [a2_0]).wr W4 (Or.inl (List.mem_of_getElem? (i := 0) rfl))
  have f10 := F_modCount_a2_0.same W4
  have N11 := Fr.snoc X4 N2 g_a2_0
  obtain ⟨fs, hr, hrun, hended, hW, hsame⟩ := X4.leave (v := none) (fun _ => rfl)
  refine ⟨_, _, pre5 _ ?_, hrun, hended, _, _, rfl, ?_, ⟨_, rfl⟩, hW, hsame.mono (by decide) (by decide)⟩
  · show Steps p.tables e below (T4.setTop (mkF m 9 #[.val (.ref a2_0)] [])) _
    exact X4.returnOut hx Bd.returns (hb hby d2_9) hr
  · show Q2 Z a2_0 w2_modCount_a2_0 w2_elementData_a2_0 h0 n0 _ T4.heap _
    rw [e4]
    exact ⟨rfl, N11, k9, f6, f7, f10⟩
theorem d1_0 : decode jdk_38_method_2_code 0 = .ok (.aload_n 0, 1) := by decide +kernel
theorem d1_1 : decode jdk_38_method_2_code 1 = .ok (.invokespecial 1, 3) := by decide +kernel
theorem d1_4 : decode jdk_38_method_2_code 4 = .ok (.aload_n 0, 1) := by decide +kernel
theorem d1_5 : decode jdk_38_method_2_code 5 = .ok (.getstatic 39, 3) := by decide +kernel
theorem d1_8 : decode jdk_38_method_2_code 8 = .ok (.putfield 9, 3) := by decide +kernel
theorem d1_11 : decode jdk_38_method_2_code 11 = .ok (.return_, 1) := by decide +kernel
theorem pn_1 : plainName "java/util/ArrayList" = true := by first | (simp [plainName, overriddenIn]; done) | decide +kernel
theorem ef_1 (m : MethodId) (x0 : Addr) : entryFrame m #[(.ref x0)] 1 = mkF m 0 #[.val (.ref x0)] [] := by first | (simp [entryFrame, mkF, argsToLocals, Value.category]; done) | rfl
def Q1 (Z : State) (a1_0 : Addr) (w1_modCount_a1_0 : Int32) (w1_elementData_a1_0 : Value) (w1_DEFAULTCAPACITY_EMPTY_ELEMENTDATA : Addr) (h0 : Heap) (n0 : Nat) (v : Option Value) (h : Heap) (L : List Loc) : Prop := v = none ∧ Fr n0 L ∧ Keep h0 h [a1_0] ∧ Exa Z h a1_0 "java/util/ArrayList" ∧ Fld Z h a1_0 "java/util/AbstractList" "modCount" "I" (.int (0 : Int32)) ∧ Fld Z h a1_0 "java/util/ArrayList" "elementData" "[Ljava/lang/Object;" (.ref w1_DEFAULTCAPACITY_EMPTY_ELEMENTDATA)
set_option maxRecDepth 65536 in
set_option maxHeartbeats 40000000 in
theorem rm1 (l : Launch) (Z : State) (a0 : Array Value) (hw : ∀ d ∈ tables_1, d.before a0 Z = true) (ws : List Jvm.Cond) (a1_0 : Addr) (w1_modCount_a1_0 : Int32) (w1_elementData_a1_0 : Value) (w1_DEFAULTCAPACITY_EMPTY_ELEMENTDATA : Addr) (h0 : Heap) (n0 : Nat) (Z0 : n0 ≤ h0.size) (O0 : Old Z n0 h0) (E_a1_0 : Exa Z h0 a1_0 "java/util/ArrayList") (F_modCount_a1_0 : Fld Z h0 a1_0 "java/util/AbstractList" "modCount" "I" (.int w1_modCount_a1_0)) (F_elementData_a1_0 : Fld Z h0 a1_0 "java/util/ArrayList" "elementData" "[Ljava/lang/Object;" w1_elementData_a1_0) (g_a1_0 : n0 ≤ a1_0) (S_DEFAULTCAPACITY_EMPTY_ELEMENTDATA : Sta Z Z.heap "java/util/ArrayList" "DEFAULTCAPACITY_EMPTY_ELEMENTDATA" "[Ljava/lang/Object;" (.ref w1_DEFAULTCAPACITY_EMPTY_ELEMENTDATA)) :
    MetFree l (⟨"java/util/ArrayList", "<init>", "()V"⟩ : MethodName) (head1 (Jvm.Cond.code (⟨"java/util/ArrayList", "<init>", "()V"⟩ : MethodName) jdk_38_method_2_code 1 none :: ws) ({ frames := 3, cells := 0, slots := 0, locals := 36 } : Room)) (fun a U => a = #[(.ref a1_0)] ∧ Z.Warmed39 U.vm ∧ U.heap = h0) (fun _ _ _ _ _ => True) (fun _ U o U' => ∃ v L, o = .returned v ∧ Q1 Z a1_0 w1_modCount_a1_0 w1_elementData_a1_0 w1_DEFAULTCAPACITY_EMPTY_ELEMENTDATA h0 n0 v U'.heap L ∧ FrameEnd U o U' L ({ frames := 3, cells := 0, slots := 0, locals := 36 } : Room).cells ({ frames := 3, cells := 0, slots := 0, locals := 36 } : Room).slots) := by
  refine MetFree.of_bodySF (plainFor_of_name pn_1) hisR ?_
  intro p e s m args below meth c s₁ Bd hml0 hP hK
  obtain ⟨rfl, hZ, hh⟩ := hP
  have hVV : ∀ (i : Nat) (d : Jvm.Cond), tables_1[i]? = some d → d.before a0 Z = true := fun i d h => hw d (List.mem_of_getElem? h)
  have hx := Bd.exec
  have hby := Bd.bytes
  have hml : c.maxLocals = 1 := hml0
  have hown : s.vm.findClass "java/util/ArrayList" = some m.cls := findClass_of_methodNamed Bd.named
  have hnm := (name_of_methodNamed Bd.named Bd.method).1
  have X0 : Stand p l e ({ frames := 3, cells := 0, slots := 0, locals := 36 } : Room) s m #[(.ref a1_0)] below meth c s₁ [] 0 0 := Stand.of_body Bd
  have e0 : s₁.heap = h0 := by rw [← hh, Bd.state]; rfl
  have N0 := Fr.nil n0
  have pre0 : ∀ t, Steps p.tables e below (s₁.setTop (mkF m 0 #[.val (.ref a1_0)] [])) t → Steps p.tables e below (s₁.setTop (entryFrame m #[(.ref a1_0)] 1)) t := fun t k => castTop (ef_1 m a1_0) k
  obtain ⟨_, _, ⟨T1, L1, k1, n1⟩, -, X1, ⟨Lc1, hQ1, l1, y1, z1⟩, st1⟩ := X0.specialBack hx (y := (⟨"java/util/AbstractList", "<init>", "()V"⟩ : MethodName)) rfl hown (mvT hZ (hVV 10 _ rfl)) (mvT hZ (hVV 11 _ rfl)) (mvT hZ (hVV 15 _ rfl)) (by decide) (backOf (W := 0) (rm2 l Z a0 hw [] a1_0 w1_modCount_a1_0 w1_elementData_a1_0 h0 n0 Z0 E_a1_0 F_modCount_a1_0 F_elementData_a1_0 g_a1_0) hZ (hVV 15 _ rfl) (hVV 14 _ rfl) (by decide) (by decide)) (g := (mkF m 1 #[.val (.ref a1_0)] [(.ref a1_0)])) rfl (by rw [hml]; rfl) (Steps.refl _) (a := a1_0) (argsL := []) (rest := []) (lenOf pd_0 rfl) rfl (by show 2 * 0 + _ ≤ _; exact Nat.le_of_eq rfl) (hb hby d1_1) (fun _ _ => ⟨rfl, e0, (by decide : 0 + 0 ≤ _), (by decide : 0 + 0 ≤ _)⟩)
  dsimp only [Pt.U, Pt.locs, Pt.cells, Pt.slots] at X1 l1 y1 z1 st1 hQ1
  subst l1 y1 z1
  obtain ⟨rfl, N1q, K1, r1_0, r1_1, r1_2⟩ := hQ1
  have N2 := Fr.app N0 N1q
  have pre3 : ∀ t, Steps p.tables e below (T1.setTop (mkF m 4 #[.val (.ref a1_0)] [])) t → Steps p.tables e below (s₁.setTop (entryFrame m #[(.ref a1_0)] 1)) t := fun t k => pre0 t (by
    show Steps p.tables e below (s₁.setTop (mkF m 0 #[.val (.ref a1_0)] [])) _
    refine XS.aloadN X0.here hx rfl (hb hby d1_0) rfl rfl ?_
    show Steps p.tables e below (s₁.setTop (mkF m 1 #[.val (.ref a1_0)] [(.ref a1_0)])) _
    refine st1.trans ?_
    exact k)
  have f4 := E_a1_0.keep K1
  have z5 := Nat.le_trans Z0 K1.1
  have k6 := (Keep.refl h0 [a1_0]).trans K1 (allS (Or.inl (List.mem_of_getElem? (i := 0) rfl)) all0)
  have o7 := O0.keep K1 (allS g_a1_0 all0)
  obtain ⟨T8, X8, e8, st8⟩ := getS2 X1 hx hZ hown (host := "") (Or.inl (hVV 27 _ rfl)) Via.refl rfl (S_DEFAULTCAPACITY_EMPTY_ELEMENTDATA.ext o7.2) (g := (mkF m 5 #[.val (.ref a1_0)] [(.ref a1_0)])) rfl (hb hby d1_5)
  have pre9 : ∀ t, Steps p.tables e below (T8.setTop (mkF m 8 #[.val (.ref a1_0)] [(.ref w1_DEFAULTCAPACITY_EMPTY_ELEMENTDATA), (.ref a1_0)])) t → Steps p.tables e below (s₁.setTop (entryFrame m #[(.ref a1_0)] 1)) t := fun t k => pre3 t (by
    show Steps p.tables e below (T1.setTop (mkF m 4 #[.val (.ref a1_0)] [])) _
    refine XS.aloadN X1.here hx rfl (hb hby d1_4) rfl rfl ?_
    show Steps p.tables e below (T1.setTop (mkF m 5 #[.val (.ref a1_0)] [(.ref a1_0)])) _
    refine st8 _ ?_
    exact k)
  obtain ⟨T10, h10, X10, e10, W10, st10⟩ := putF X8 hx hZ hown (host := "") (Or.inl (hVV 28 _ rfl)) Via.refl e8 r1_1 r1_0 (Or.inl (hVV 29 _ rfl)) (hVV 5 _ rfl) (ty := (.array (.object "java/lang/Object"))) (by decide) rfl rfl (g := (mkF m 8 #[.val (.ref a1_0)] [(.ref w1_DEFAULTCAPACITY_EMPTY_ELEMENTDATA), (.ref a1_0)])) rfl rfl (hb hby d1_8)
  have pre11 : ∀ t, Steps p.tables e below (T10.setTop (mkF m 11 #[.val (.ref a1_0)] [])) t → Steps p.tables e below (s₁.setTop (entryFrame m #[(.ref a1_0)] 1)) t := fun t k => pre9 t (by
    show Steps p.tables e below (T8.setTop (mkF m 8 #[.val (.ref a1_0)] [(.ref w1_DEFAULTCAPACITY_EMPTY_ELEMENTDATA), (.ref a1_0)])) _
    refine st10 _ ?_
    exact k)
  have f12 := r1_0.wr W10
  have f13 := r1_2.other W10 (Or.inr (slot_ne (Or.inl (hVV 26 _ rfl)) (Or.inl (hVV 29 _ rfl)) (by decide) (t := .int) (t' := (.array (.object "java/lang/Object"))) (by decide) (by decide)))
  have z14 := Nat.le_trans z5 (Keep.of_wr W10).1
  have k15 := k6.wr W10 (Or.inl (List.mem_of_getElem? (i := 0) rfl))
  have o16 := o7.wr W10 g_a1_0
  have f17 := r1_1.same W10
  have N18 := Fr.snoc X10 N2 g_a1_0
  obtain ⟨fs, hr, hrun, hended, hW, hsame⟩ := X10.leave (v := none) (fun _ => rfl)
  refine ⟨_, _, pre11 _ ?_, hrun, hended, _, _, rfl, ?_, ⟨_, rfl⟩, hW, hsame.mono (by decide) (by decide)⟩
  · show Steps p.tables e below (T10.setTop (mkF m 11 #[.val (.ref a1_0)] [])) _
    exact X10.returnOut hx Bd.returns (hb hby d1_11) hr
  · show Q1 Z a1_0 w1_modCount_a1_0 w1_elementData_a1_0 w1_DEFAULTCAPACITY_EMPTY_ELEMENTDATA h0 n0 _ T10.heap _
    rw [e10]
    exact ⟨rfl, N18, k15, f12, f13, f17⟩
theorem d6_0 : decode jdk_30_method_1_code 0 = .ok (.aload_n 0, 1) := by decide +kernel
theorem d6_1 : decode jdk_30_method_1_code 1 = .ok (.invokespecial 1, 3) := by decide +kernel
theorem d6_4 : decode jdk_30_method_1_code 4 = .ok (.return_, 1) := by decide +kernel
theorem pn_6 : plainName "java/lang/Record" = true := by first | (simp [plainName, overriddenIn]; done) | decide +kernel
theorem ef_6 (m : MethodId) (x0 : Addr) : entryFrame m #[(.ref x0)] 1 = mkF m 0 #[.val (.ref x0)] [] := by first | (simp [entryFrame, mkF, argsToLocals, Value.category]; done) | rfl
def Q6 (Z : State) (a6_0 : Addr) (h0 : Heap) (n0 : Nat) (v : Option Value) (h : Heap) (L : List Loc) : Prop := v = none ∧ Fr n0 L ∧ h = h0
set_option maxRecDepth 65536 in
set_option maxHeartbeats 40000000 in
theorem rm6 (l : Launch) (Z : State) (a0 : Array Value) (hw : ∀ d ∈ tables_1, d.before a0 Z = true) (ws : List Jvm.Cond) (a6_0 : Addr) (h0 : Heap) (n0 : Nat) (Z0 : n0 ≤ h0.size) :
    MetFree l (⟨"java/lang/Record", "<init>", "()V"⟩ : MethodName) (head1 (Jvm.Cond.code (⟨"java/lang/Record", "<init>", "()V"⟩ : MethodName) jdk_30_method_1_code 1 none :: ws) ({ frames := 1, cells := 0, slots := 0, locals := 12 } : Room)) (fun a U => a = #[(.ref a6_0)] ∧ Z.Warmed39 U.vm ∧ U.heap = h0) (fun _ _ _ _ _ => True) (fun _ U o U' => ∃ v L, o = .returned v ∧ Q6 Z a6_0 h0 n0 v U'.heap L ∧ FrameEnd U o U' L ({ frames := 1, cells := 0, slots := 0, locals := 12 } : Room).cells ({ frames := 1, cells := 0, slots := 0, locals := 12 } : Room).slots) := by
  refine MetFree.of_bodySF (plainFor_of_name pn_6) hisR ?_
  intro p e s m args below meth c s₁ Bd hml0 hP hK
  obtain ⟨rfl, hZ, hh⟩ := hP
  have hVV : ∀ (i : Nat) (d : Jvm.Cond), tables_1[i]? = some d → d.before a0 Z = true := fun i d h => hw d (List.mem_of_getElem? h)
  have hx := Bd.exec
  have hby := Bd.bytes
  have hml : c.maxLocals = 1 := hml0
  have hown : s.vm.findClass "java/lang/Record" = some m.cls := findClass_of_methodNamed Bd.named
  have hnm := (name_of_methodNamed Bd.named Bd.method).1
  have X0 : Stand p l e ({ frames := 1, cells := 0, slots := 0, locals := 12 } : Room) s m #[(.ref a6_0)] below meth c s₁ [] 0 0 := Stand.of_body Bd
  have e0 : s₁.heap = h0 := by rw [← hh, Bd.state]; rfl
  have N0 := Fr.nil n0
  have pre0 : ∀ t, Steps p.tables e below (s₁.setTop (mkF m 0 #[.val (.ref a6_0)] [])) t → Steps p.tables e below (s₁.setTop (entryFrame m #[(.ref a6_0)] 1)) t := fun t k => castTop (ef_6 m a6_0) k
  obtain ⟨T1, X1, e1, st1⟩ := initO X0 hx hZ hown (hVV 38 _ rfl) (hVV 23 _ rfl) (hVV 24 _ rfl) e0 (g := (mkF m 1 #[.val (.ref a6_0)] [(.ref a6_0)])) rfl (by rw [hml]; rfl) rfl (hb hby d6_1) (by decide) (W := 0) (by show 2 * 0 + _ ≤ _; exact Nat.le_of_eq rfl) (by decide)
  have pre2 : ∀ t, Steps p.tables e below (T1.setTop (mkF m 4 #[.val (.ref a6_0)] [])) t → Steps p.tables e below (s₁.setTop (entryFrame m #[(.ref a6_0)] 1)) t := fun t k => pre0 t (by
    show Steps p.tables e below (s₁.setTop (mkF m 0 #[.val (.ref a6_0)] [])) _
    refine XS.aloadN X0.here hx rfl (hb hby d6_0) rfl rfl ?_
    show Steps p.tables e below (s₁.setTop (mkF m 1 #[.val (.ref a6_0)] [(.ref a6_0)])) _
    refine st1 _ ?_
    exact k)
  obtain ⟨fs, hr, hrun, hended, hW, hsame⟩ := X1.leave (v := none) (fun _ => rfl)
  refine ⟨_, _, pre2 _ ?_, hrun, hended, _, _, rfl, ?_, ⟨_, rfl⟩, hW, hsame.mono (by decide) (by decide)⟩
  · show Steps p.tables e below (T1.setTop (mkF m 4 #[.val (.ref a6_0)] [])) _
    exact X1.returnOut hx Bd.returns (hb hby d6_4) hr
  · show Q6 Z a6_0 h0 n0 _ T1.heap _
    rw [e1]
    exact ⟨rfl, N0, rfl⟩
theorem d5_0 : decode prog_81_method_1_code 0 = .ok (.aload_n 0, 1) := by decide +kernel
theorem d5_1 : decode prog_81_method_1_code 1 = .ok (.invokespecial 1, 3) := by decide +kernel
theorem d5_4 : decode prog_81_method_1_code 4 = .ok (.aload_n 0, 1) := by decide +kernel
theorem d5_5 : decode prog_81_method_1_code 5 = .ok (.aload_n 1, 1) := by decide +kernel
theorem d5_6 : decode prog_81_method_1_code 6 = .ok (.putfield 7, 3) := by decide +kernel
theorem d5_9 : decode prog_81_method_1_code 9 = .ok (.aload_n 0, 1) := by decide +kernel
theorem d5_10 : decode prog_81_method_1_code 10 = .ok (.aload_n 2, 1) := by decide +kernel
theorem d5_11 : decode prog_81_method_1_code 11 = .ok (.putfield 13, 3) := by decide +kernel
theorem d5_14 : decode prog_81_method_1_code 14 = .ok (.aload_n 0, 1) := by decide +kernel
theorem d5_15 : decode prog_81_method_1_code 15 = .ok (.aload_n 3, 1) := by decide +kernel
theorem d5_16 : decode prog_81_method_1_code 16 = .ok (.putfield 16, 3) := by decide +kernel
theorem d5_19 : decode prog_81_method_1_code 19 = .ok (.aload_n 0, 1) := by decide +kernel
theorem d5_20 : decode prog_81_method_1_code 20 = .ok (.iload 4, 2) := by decide +kernel
theorem d5_22 : decode prog_81_method_1_code 22 = .ok (.putfield 19, 3) := by decide +kernel
theorem d5_25 : decode prog_81_method_1_code 25 = .ok (.aload_n 0, 1) := by decide +kernel
theorem d5_26 : decode prog_81_method_1_code 26 = .ok (.aload 5, 2) := by decide +kernel
theorem d5_28 : decode prog_81_method_1_code 28 = .ok (.putfield 23, 3) := by decide +kernel
theorem d5_31 : decode prog_81_method_1_code 31 = .ok (.aload_n 0, 1) := by decide +kernel
theorem d5_32 : decode prog_81_method_1_code 32 = .ok (.lload 6, 2) := by decide +kernel
theorem d5_34 : decode prog_81_method_1_code 34 = .ok (.putfield 26, 3) := by decide +kernel
theorem d5_37 : decode prog_81_method_1_code 37 = .ok (.aload_n 0, 1) := by decide +kernel
theorem d5_38 : decode prog_81_method_1_code 38 = .ok (.lload 8, 2) := by decide +kernel
theorem d5_40 : decode prog_81_method_1_code 40 = .ok (.putfield 30, 3) := by decide +kernel
theorem d5_43 : decode prog_81_method_1_code 43 = .ok (.return_, 1) := by decide +kernel
theorem pn_5 : plainName "com/example/tripleshard/tripleshard/sparql/Query" = true := by first | (simp [plainName, overriddenIn]; done) | decide +kernel
theorem ef_5 (m : MethodId) (x0 : Addr) (x1 : Addr) (x2 : Addr) (x3 : Addr) (x4 : Int32) (x5 : Addr) (x6 : Int64) (x7 : Int64) : entryFrame m #[(.ref x0), (.ref x1), (.ref x2), (.ref x3), (.int x4), (.ref x5), (.long x6), (.long x7)] 10 = mkF m 0 #[.val (.ref x0), .val (.ref x1), .val (.ref x2), .val (.ref x3), .val (.int x4), .val (.ref x5), .val (.long x6), .second, .val (.long x7), .second] [] := by first | (simp [entryFrame, mkF, argsToLocals, Value.category]; done) | rfl
def Q5 (Z : State) (a5_0 : Addr) (a5_1 : Addr) (a5_2 : Addr) (a5_3 : Addr) (p5_4 : Int32) (a5_5 : Addr) (q5_6 : Int64) (q5_7 : Int64) (w5_projection_a5_0 : Value) (w5_patterns_a5_0 : Value) (w5_filters_a5_0 : Value) (w5_distinct_a5_0 : Int32) (w5_orderBy_a5_0 : Value) (w5_offset_a5_0 : Int64) (w5_limit_a5_0 : Int64) (h0 : Heap) (n0 : Nat) (v : Option Value) (h : Heap) (L : List Loc) : Prop := v = none ∧ Fr n0 L ∧ Keep h0 h [a5_0] ∧ Exa Z h a5_0 "com/example/tripleshard/tripleshard/sparql/Query" ∧ Fld Z h a5_0 "com/example/tripleshard/tripleshard/sparql/Query" "projection" "Ljava/util/List;" (.ref a5_1) ∧ Fld Z h a5_0 "com/example/tripleshard/tripleshard/sparql/Query" "patterns" "Ljava/util/List;" (.ref a5_2) ∧ Fld Z h a5_0 "com/example/tripleshard/tripleshard/sparql/Query" "filters" "Ljava/util/List;" (.ref a5_3) ∧ Fld Z h a5_0 "com/example/tripleshard/tripleshard/sparql/Query" "distinct" "Z" (.int (nar .boolean p5_4)) ∧ Fld Z h a5_0 "com/example/tripleshard/tripleshard/sparql/Query" "orderBy" "Ljava/util/List;" (.ref a5_5) ∧ Fld Z h a5_0 "com/example/tripleshard/tripleshard/sparql/Query" "offset" "J" (.long q5_6) ∧ Fld Z h a5_0 "com/example/tripleshard/tripleshard/sparql/Query" "limit" "J" (.long q5_7)
set_option maxRecDepth 65536 in
set_option maxHeartbeats 40000000 in
theorem rm5 (l : Launch) (Z : State) (a0 : Array Value) (hw : ∀ d ∈ tables_1, d.before a0 Z = true) (ws : List Jvm.Cond) (a5_0 : Addr) (a5_1 : Addr) (a5_2 : Addr) (a5_3 : Addr) (p5_4 : Int32) (a5_5 : Addr) (q5_6 : Int64) (q5_7 : Int64) (w5_projection_a5_0 : Value) (w5_patterns_a5_0 : Value) (w5_filters_a5_0 : Value) (w5_distinct_a5_0 : Int32) (w5_orderBy_a5_0 : Value) (w5_offset_a5_0 : Int64) (w5_limit_a5_0 : Int64) (h0 : Heap) (n0 : Nat) (Z0 : n0 ≤ h0.size) (E_a5_0 : Exa Z h0 a5_0 "com/example/tripleshard/tripleshard/sparql/Query") (F_projection_a5_0 : Fld Z h0 a5_0 "com/example/tripleshard/tripleshard/sparql/Query" "projection" "Ljava/util/List;" w5_projection_a5_0) (F_patterns_a5_0 : Fld Z h0 a5_0 "com/example/tripleshard/tripleshard/sparql/Query" "patterns" "Ljava/util/List;" w5_patterns_a5_0) (F_filters_a5_0 : Fld Z h0 a5_0 "com/example/tripleshard/tripleshard/sparql/Query" "filters" "Ljava/util/List;" w5_filters_a5_0) (F_distinct_a5_0 : Fld Z h0 a5_0 "com/example/tripleshard/tripleshard/sparql/Query" "distinct" "Z" (.int w5_distinct_a5_0)) (F_orderBy_a5_0 : Fld Z h0 a5_0 "com/example/tripleshard/tripleshard/sparql/Query" "orderBy" "Ljava/util/List;" w5_orderBy_a5_0) (F_offset_a5_0 : Fld Z h0 a5_0 "com/example/tripleshard/tripleshard/sparql/Query" "offset" "J" (.long w5_offset_a5_0)) (F_limit_a5_0 : Fld Z h0 a5_0 "com/example/tripleshard/tripleshard/sparql/Query" "limit" "J" (.long w5_limit_a5_0)) (g_a5_0 : n0 ≤ a5_0) :
    MetFree l (⟨"com/example/tripleshard/tripleshard/sparql/Query", "<init>", "(Ljava/util/List;Ljava/util/List;Ljava/util/List;ZLjava/util/List;JJ)V"⟩ : MethodName) (head1 (Jvm.Cond.code (⟨"com/example/tripleshard/tripleshard/sparql/Query", "<init>", "(Ljava/util/List;Ljava/util/List;Ljava/util/List;ZLjava/util/List;JJ)V"⟩ : MethodName) prog_81_method_1_code 10 none :: ws) ({ frames := 2, cells := 0, slots := 0, locals := 24 } : Room)) (fun a U => a = #[(.ref a5_0), (.ref a5_1), (.ref a5_2), (.ref a5_3), (.int p5_4), (.ref a5_5), (.long q5_6), (.long q5_7)] ∧ Z.Warmed39 U.vm ∧ U.heap = h0) (fun _ _ _ _ _ => True) (fun _ U o U' => ∃ v L, o = .returned v ∧ Q5 Z a5_0 a5_1 a5_2 a5_3 p5_4 a5_5 q5_6 q5_7 w5_projection_a5_0 w5_patterns_a5_0 w5_filters_a5_0 w5_distinct_a5_0 w5_orderBy_a5_0 w5_offset_a5_0 w5_limit_a5_0 h0 n0 v U'.heap L ∧ FrameEnd U o U' L ({ frames := 2, cells := 0, slots := 0, locals := 24 } : Room).cells ({ frames := 2, cells := 0, slots := 0, locals := 24 } : Room).slots) := by
  refine MetFree.of_bodySF (plainFor_of_name pn_5) hisR ?_
  intro p e s m args below meth c s₁ Bd hml0 hP hK
  obtain ⟨rfl, hZ, hh⟩ := hP
  have hVV : ∀ (i : Nat) (d : Jvm.Cond), tables_1[i]? = some d → d.before a0 Z = true := fun i d h => hw d (List.mem_of_getElem? h)
  have hx := Bd.exec
  have hby := Bd.bytes
  have hml : c.maxLocals = 10 := hml0
  have hown : s.vm.findClass "com/example/tripleshard/tripleshard/sparql/Query" = some m.cls := findClass_of_methodNamed Bd.named
  have hnm := (name_of_methodNamed Bd.named Bd.method).1
  have X0 : Stand p l e ({ frames := 2, cells := 0, slots := 0, locals := 24 } : Room) s m #[(.ref a5_0), (.ref a5_1), (.ref a5_2), (.ref a5_3), (.int p5_4), (.ref a5_5), (.long q5_6), (.long q5_7)] below meth c s₁ [] 0 0 := Stand.of_body Bd
  have e0 : s₁.heap = h0 := by rw [← hh, Bd.state]; rfl
  have N0 := Fr.nil n0
  have pre0 : ∀ t, Steps p.tables e below (s₁.setTop (mkF m 0 #[.val (.ref a5_0), .val (.ref a5_1), .val (.ref a5_2), .val (.ref a5_3), .val (.int p5_4), .val (.ref a5_5), .val (.long q5_6), .second, .val (.long q5_7), .second] [])) t → Steps p.tables e below (s₁.setTop (entryFrame m #[(.ref a5_0), (.ref a5_1), (.ref a5_2), (.ref a5_3), (.int p5_4), (.ref a5_5), (.long q5_6), (.long q5_7)] 10)) t := fun t k => castTop (ef_5 m a5_0 a5_1 a5_2 a5_3 p5_4 a5_5 q5_6 q5_7) k
  obtain ⟨_, _, ⟨T1, L1, k1, n1⟩, -, X1, ⟨Lc1, hQ1, l1, y1, z1⟩, st1⟩ := X0.specialBack hx (y := (⟨"java/lang/Record", "<init>", "()V"⟩ : MethodName)) rfl hown (mvT hZ (hVV 33 _ rfl)) (mvT hZ (hVV 34 _ rfl)) (mvT hZ (hVV 37 _ rfl)) (by decide) (backOf (W := 0) (rm6 l Z a0 hw [] a5_0 h0 n0 Z0 ) hZ (hVV 37 _ rfl) (hVV 36 _ rfl) (by decide) (by decide)) (g := (mkF m 1 #[.val (.ref a5_0), .val (.ref a5_1), .val (.ref a5_2), .val (.ref a5_3), .val (.int p5_4), .val (.ref a5_5), .val (.long q5_6), .second, .val (.long q5_7), .second] [(.ref a5_0)])) rfl (by rw [hml]; rfl) (Steps.refl _) (a := a5_0) (argsL := []) (rest := []) (lenOf pd_0 rfl) rfl (by show 2 * 0 + _ ≤ _; exact Nat.le_of_eq rfl) (hb hby d5_1) (fun _ _ => ⟨rfl, e0, (by decide : 0 + 0 ≤ _), (by decide : 0 + 0 ≤ _)⟩)
  dsimp only [Pt.U, Pt.locs, Pt.cells, Pt.slots] at X1 l1 y1 z1 st1 hQ1
  subst l1 y1 z1
  obtain ⟨rfl, N1q, e1⟩ := hQ1
  have N2 := Fr.app N0 N1q
  have pre3 : ∀ t, Steps p.tables e below (T1.setTop (mkF m 4 #[.val (.ref a5_0), .val (.ref a5_1), .val (.ref a5_2), .val (.ref a5_3), .val (.int p5_4), .val (.ref a5_5), .val (.long q5_6), .second, .val (.long q5_7), .second] [])) t → Steps p.tables e below (s₁.setTop (entryFrame m #[(.ref a5_0), (.ref a5_1), (.ref a5_2), (.ref a5_3), (.int p5_4), (.ref a5_5), (.long q5_6), (.long q5_7)] 10)) t := fun t k => pre0 t (by
    show Steps p.tables e below (s₁.setTop (mkF m 0 #[.val (.ref a5_0), .val (.ref a5_1), .val (.ref a5_2), .val (.ref a5_3), .val (.int p5_4), .val (.ref a5_5), .val (.long q5_6), .second, .val (.long q5_7), .second] [])) _
    refine XS.aloadN X0.here hx rfl (hb hby d5_0) rfl rfl ?_
    show Steps p.tables e below (s₁.setTop (mkF m 1 #[.val (.ref a5_0), .val (.ref a5_1), .val (.ref a5_2), .val (.ref a5_3), .val (.int p5_4), .val (.ref a5_5), .val (.long q5_6), .second, .val (.long q5_7), .second] [(.ref a5_0)])) _
    refine st1.trans ?_
    exact k)
  obtain ⟨T4, h4, X4, e4, W4, st4⟩ := putF X1 hx hZ hown (host := "") (Or.inl (hVV 39 _ rfl)) Via.refl e1 F_projection_a5_0 E_a5_0 (Or.inr ⟨(hVV 40 _ rfl), rfl, hnm⟩) (hVV 2 _ rfl) (ty := (.object "java/util/List")) (by decide) rfl rfl (g := (mkF m 6 #[.val (.ref a5_0), .val (.ref a5_1), .val (.ref a5_2), .val (.ref a5_3), .val (.int p5_4), .val (.ref a5_5), .val (.long q5_6), .second, .val (.long q5_7), .second] [(.ref a5_1), (.ref a5_0)])) rfl rfl (hb hby d5_6)
  have pre5 : ∀ t, Steps p.tables e below (T4.setTop (mkF m 9 #[.val (.ref a5_0), .val (.ref a5_1), .val (.ref a5_2), .val (.ref a5_3), .val (.int p5_4), .val (.ref a5_5), .val (.long q5_6), .second, .val (.long q5_7), .second] [])) t → Steps p.tables e below (s₁.setTop (entryFrame m #[(.ref a5_0), (.ref a5_1), (.ref a5_2), (.ref a5_3), (.int p5_4), (.ref a5_5), (.long q5_6), (.long q5_7)] 10)) t := fun t k => pre3 t (by
    show Steps p.tables e below (T1.setTop (mkF m 4 #[.val (.ref a5_0), .val (.ref a5_1), .val (.ref a5_2), .val (.ref a5_3), .val (.int p5_4), .val (.ref a5_5), .val (.long q5_6), .second, .val (.long q5_7), .second] [])) _
    refine XS.aloadN X1.here hx rfl (hb hby d5_4) rfl rfl ?_
    show Steps p.tables e below (T1.setTop (mkF m 5 #[.val (.ref a5_0), .val (.ref a5_1), .val (.ref a5_2), .val (.ref a5_3), .val (.int p5_4), .val (.ref a5_5), .val (.long q5_6), .second, .val (.long q5_7), .second] [(.ref a5_0)])) _
    refine XS.aloadN X1.here hx rfl (hb hby d5_5) rfl rfl ?_
    show Steps p.tables e below (T1.setTop (mkF m 6 #[.val (.ref a5_0), .val (.ref a5_1), .val (.ref a5_2), .val (.ref a5_3), .val (.int p5_4), .val (.ref a5_5), .val (.long q5_6), .second, .val (.long q5_7), .second] [(.ref a5_1), (.ref a5_0)])) _
    refine st4 _ ?_
    exact k)
  have f6 := E_a5_0.wr W4
  have f7 := F_patterns_a5_0.other W4 (Or.inr (slot_ne (Or.inr (hVV 42 _ rfl)) (Or.inr (hVV 40 _ rfl)) (by decide) (t := (.object "java/util/List")) (t' := (.object "java/util/List")) (by decide) (by decide)))
  have f8 := F_filters_a5_0.other W4 (Or.inr (slot_ne (Or.inr (hVV 44 _ rfl)) (Or.inr (hVV 40 _ rfl)) (by decide) (t := (.object "java/util/List")) (t' := (.object "java/util/List")) (by decide) (by decide)))
  have f9 := F_distinct_a5_0.other W4 (Or.inr (slot_ne (Or.inr (hVV 46 _ rfl)) (Or.inr (hVV 40 _ rfl)) (by decide) (t := .boolean) (t' := (.object "java/util/List")) (by decide) (by decide)))
  have f10 := F_orderBy_a5_0.other W4 (Or.inr (slot_ne (Or.inr (hVV 48 _ rfl)) (Or.inr (hVV 40 _ rfl)) (by decide) (t := (.object "java/util/List")) (t' := (.object "java/util/List")) (by decide) (by decide)))
  have f11 := F_offset_a5_0.other W4 (Or.inr (slot_ne (Or.inr (hVV 50 _ rfl)) (Or.inr (hVV 40 _ rfl)) (by decide) (t := .long) (t' := (.object "java/util/List")) (by decide) (by decide)))
  have f12 := F_limit_a5_0.other W4 (Or.inr (slot_ne (Or.inr (hVV 52 _ rfl)) (Or.inr (hVV 40 _ rfl)) (by decide) (t := .long) (t' := (.object "java/util/List")) (by decide) (by decide)))
  have z13 := Nat.le_trans Z0 (Keep.of_wr W4).1
  have k14 := (Keep.refl h0 [a5_0]).wr W4 (Or.inl (List.mem_of_getElem? (i := 0) rfl))
  have f15 := F_projection_a5_0.same W4
  have N16 := Fr.snoc X4 N2 g_a5_0
  obtain ⟨T17, h17, X17, e17, W17, st17⟩ := putF X4 hx hZ hown (host := "") (Or.inl (hVV 41 _ rfl)) Via.refl e4 f7 f6 (Or.inr ⟨(hVV 42 _ rfl), rfl, hnm⟩) (hVV 2 _ rfl) (ty := (.object "java/util/List")) (by decide) rfl rfl (g := (mkF m 11 #[.val (.ref a5_0), .val (.ref a5_1), .val (.ref a5_2), .val (.ref a5_3), .val (.int p5_4), .val (.ref a5_5), .val (.long q5_6), .second, .val (.long q5_7), .second] [(.ref a5_2), (.ref a5_0)])) rfl rfl (hb hby d5_11)
  have pre18 : ∀ t, Steps p.tables e below (T17.setTop (mkF m 14 #[.val (.ref a5_0), .val (.ref a5_1), .val (.ref a5_2), .val (.ref a5_3), .val (.int p5_4), .val (.ref a5_5), .val (.long q5_6), .second, .val (.long q5_7), .second] [])) t → Steps p.tables e below (s₁.setTop (entryFrame m #[(.ref a5_0), (.ref a5_1), (.ref a5_2), (.ref a5_3), (.int p5_4), (.ref a5_5), (.long q5_6), (.long q5_7)] 10)) t := fun t k => pre5 t (by
    show Steps p.tables e below (T4.setTop (mkF m 9 #[.val (.ref a5_0), .val (.ref a5_1), .val (.ref a5_2), .val (.ref a5_3), .val (.int p5_4), .val (.ref a5_5), .val (.long q5_6), .second, .val (.long q5_7), .second] [])) _
    refine XS.aloadN X4.here hx rfl (hb hby d5_9) rfl rfl ?_
    show Steps p.tables e below (T4.setTop (mkF m 10 #[.val (.ref a5_0), .val (.ref a5_1), .val (.ref a5_2), .val (.ref a5_3), .val (.int p5_4), .val (.ref a5_5), .val (.long q5_6), .second, .val (.long q5_7), .second] [(.ref a5_0)])) _
    refine XS.aloadN X4.here hx rfl (hb hby d5_10) rfl rfl ?_
    show Steps p.tables e below (T4.setTop (mkF m 11 #[.val (.ref a5_0), .val (.ref a5_1), .val (.ref a5_2), .val (.ref a5_3), .val (.int p5_4), .val (.ref a5_5), .val (.long q5_6), .second, .val (.long q5_7), .second] [(.ref a5_2), (.ref a5_0)])) _
    refine st17 _ ?_
    exact k)
  have f19 := f6.wr W17
  have f20 := f8.other W17 (Or.inr (slot_ne (Or.inr (hVV 44 _ rfl)) (Or.inr (hVV 42 _ rfl)) (by decide) (t := (.object "java/util/List")) (t' := (.object "java/util/List")) (by decide) (by decide)))
  have f21 := f9.other W17 (Or.inr (slot_ne (Or.inr (hVV 46 _ rfl)) (Or.inr (hVV 42 _ rfl)) (by decide) (t := .boolean) (t' := (.object "java/util/List")) (by decide) (by decide)))
  have f22 := f10.other W17 (Or.inr (slot_ne (Or.inr (hVV 48 _ rfl)) (Or.inr (hVV 42 _ rfl)) (by decide) (t := (.object "java/util/List")) (t' := (.object "java/util/List")) (by decide) (by decide)))
  have f23 := f11.other W17 (Or.inr (slot_ne (Or.inr (hVV 50 _ rfl)) (Or.inr (hVV 42 _ rfl)) (by decide) (t := .long) (t' := (.object "java/util/List")) (by decide) (by decide)))
  have f24 := f12.other W17 (Or.inr (slot_ne (Or.inr (hVV 52 _ rfl)) (Or.inr (hVV 42 _ rfl)) (by decide) (t := .long) (t' := (.object "java/util/List")) (by decide) (by decide)))
  have f25 := f15.other W17 (Or.inr (slot_ne (Or.inr (hVV 40 _ rfl)) (Or.inr (hVV 42 _ rfl)) (by decide) (t := (.object "java/util/List")) (t' := (.object "java/util/List")) (by decide) (by decide)))
  have z26 := Nat.le_trans z13 (Keep.of_wr W17).1
  have k27 := k14.wr W17 (Or.inl (List.mem_of_getElem? (i := 0) rfl))
  have f28 := f7.same W17
  have N29 := Fr.snoc X17 N16 g_a5_0
  obtain ⟨T30, h30, X30, e30, W30, st30⟩ := putF X17 hx hZ hown (host := "") (Or.inl (hVV 43 _ rfl)) Via.refl e17 f20 f19 (Or.inr ⟨(hVV 44 _ rfl), rfl, hnm⟩) (hVV 2 _ rfl) (ty := (.object "java/util/List")) (by decide) rfl rfl (g := (mkF m 16 #[.val (.ref a5_0), .val (.ref a5_1), .val (.ref a5_2), .val (.ref a5_3), .val (.int p5_4), .val (.ref a5_5), .val (.long q5_6), .second, .val (.long q5_7), .second] [(.ref a5_3), (.ref a5_0)])) rfl rfl (hb hby d5_16)
  have pre31 : ∀ t, Steps p.tables e below (T30.setTop (mkF m 19 #[.val (.ref a5_0), .val (.ref a5_1), .val (.ref a5_2), .val (.ref a5_3), .val (.int p5_4), .val (.ref a5_5), .val (.long q5_6), .second, .val (.long q5_7), .second] [])) t → Steps p.tables e below (s₁.setTop (entryFrame m #[(.ref a5_0), (.ref a5_1), (.ref a5_2), (.ref a5_3), (.int p5_4), (.ref a5_5), (.long q5_6), (.long q5_7)] 10)) t := fun t k => pre18 t (by
    show Steps p.tables e below (T17.setTop (mkF m 14 #[.val (.ref a5_0), .val (.ref a5_1), .val (.ref a5_2), .val (.ref a5_3), .val (.int p5_4), .val (.ref a5_5), .val (.long q5_6), .second, .val (.long q5_7), .second] [])) _
    refine XS.aloadN X17.here hx rfl (hb hby d5_14) rfl rfl ?_
    show Steps p.tables e below (T17.setTop (mkF m 15 #[.val (.ref a5_0), .val (.ref a5_1), .val (.ref a5_2), .val (.ref a5_3), .val (.int p5_4), .val (.ref a5_5), .val (.long q5_6), .second, .val (.long q5_7), .second] [(.ref a5_0)])) _
    refine XS.aloadN X17.here hx rfl (hb hby d5_15) rfl rfl ?_
    show Steps p.tables e below (T17.setTop (mkF m 16 #[.val (.ref a5_0), .val (.ref a5_1), .val (.ref a5_2), .val (.ref a5_3), .val (.int p5_4), .val (.ref a5_5), .val (.long q5_6), .second, .val (.long q5_7), .second] [(.ref a5_3), (.ref a5_0)])) _
    refine st30 _ ?_
    exact k)
  have f32 := f19.wr W30
  have f33 := f21.other W30 (Or.inr (slot_ne (Or.inr (hVV 46 _ rfl)) (Or.inr (hVV 44 _ rfl)) (by decide) (t := .boolean) (t' := (.object "java/util/List")) (by decide) (by decide)))
  have f34 := f22.other W30 (Or.inr (slot_ne (Or.inr (hVV 48 _ rfl)) (Or.inr (hVV 44 _ rfl)) (by decide) (t := (.object "java/util/List")) (t' := (.object "java/util/List")) (by decide) (by decide)))
  have f35 := f23.other W30 (Or.inr (slot_ne (Or.inr (hVV 50 _ rfl)) (Or.inr (hVV 44 _ rfl)) (by decide) (t := .long) (t' := (.object "java/util/List")) (by decide) (by decide)))
  have f36 := f24.other W30 (Or.inr (slot_ne (Or.inr (hVV 52 _ rfl)) (Or.inr (hVV 44 _ rfl)) (by decide) (t := .long) (t' := (.object "java/util/List")) (by decide) (by decide)))
  have f37 := f25.other W30 (Or.inr (slot_ne (Or.inr (hVV 40 _ rfl)) (Or.inr (hVV 44 _ rfl)) (by decide) (t := (.object "java/util/List")) (t' := (.object "java/util/List")) (by decide) (by decide)))
  have f38 := f28.other W30 (Or.inr (slot_ne (Or.inr (hVV 42 _ rfl)) (Or.inr (hVV 44 _ rfl)) (by decide) (t := (.object "java/util/List")) (t' := (.object "java/util/List")) (by decide) (by decide)))
  have z39 := Nat.le_trans z26 (Keep.of_wr W30).1
  have k40 := k27.wr W30 (Or.inl (List.mem_of_getElem? (i := 0) rfl))
  have f41 := f20.same W30
  have N42 := Fr.snoc X30 N29 g_a5_0
  obtain ⟨T43, h43, X43, e43, W43, st43⟩ := putFN X30 hx hZ hown (hVV 45 _ rfl) Via.refl e30 f33 f32 (Or.inr ⟨(hVV 46 _ rfl), rfl, hnm⟩) (hVV 2 _ rfl) (ty := .boolean) (v' := (.int (nar .boolean p5_4))) (by decide) rfl (fits_nar_bool _) (g := (mkF m 22 #[.val (.ref a5_0), .val (.ref a5_1), .val (.ref a5_2), .val (.ref a5_3), .val (.int p5_4), .val (.ref a5_5), .val (.long q5_6), .second, .val (.long q5_7), .second] [(.int p5_4), (.ref a5_0)])) rfl rfl (hb hby d5_22)
  have pre44 : ∀ t, Steps p.tables e below (T43.setTop (mkF m 25 #[.val (.ref a5_0), .val (.ref a5_1), .val (.ref a5_2), .val (.ref a5_3), .val (.int p5_4), .val (.ref a5_5), .val (.long q5_6), .second, .val (.long q5_7), .second] [])) t → Steps p.tables e below (s₁.setTop (entryFrame m #[(.ref a5_0), (.ref a5_1), (.ref a5_2), (.ref a5_3), (.int p5_4), (.ref a5_5), (.long q5_6), (.long q5_7)] 10)) t := fun t k => pre31 t (by
    show Steps p.tables e below (T30.setTop (mkF m 19 #[.val (.ref a5_0), .val (.ref a5_1), .val (.ref a5_2), .val (.ref a5_3), .val (.int p5_4), .val (.ref a5_5), .val (.long q5_6), .second, .val (.long q5_7), .second] [])) _
    refine XS.aloadN X30.here hx rfl (hb hby d5_19) rfl rfl ?_
    show Steps p.tables e below (T30.setTop (mkF m 20 #[.val (.ref a5_0), .val (.ref a5_1), .val (.ref a5_2), .val (.ref a5_3), .val (.int p5_4), .val (.ref a5_5), .val (.long q5_6), .second, .val (.long q5_7), .second] [(.ref a5_0)])) _
    refine XS.iload X30.here hx rfl (hb hby d5_20) rfl ?_
    show Steps p.tables e below (T30.setTop (mkF m 22 #[.val (.ref a5_0), .val (.ref a5_1), .val (.ref a5_2), .val (.ref a5_3), .val (.int p5_4), .val (.ref a5_5), .val (.long q5_6), .second, .val (.long q5_7), .second] [(.int p5_4), (.ref a5_0)])) _
    refine st43 _ ?_
    exact k)
  have f45 := f32.wr W43
  have f46 := f34.other W43 (Or.inr (slot_ne (Or.inr (hVV 48 _ rfl)) (Or.inr (hVV 46 _ rfl)) (by decide) (t := (.object "java/util/List")) (t' := .boolean) (by decide) (by decide)))
  have f47 := f35.other W43 (Or.inr (slot_ne (Or.inr (hVV 50 _ rfl)) (Or.inr (hVV 46 _ rfl)) (by decide) (t := .long) (t' := .boolean) (by decide) (by decide)))
  have f48 := f36.other W43 (Or.inr (slot_ne (Or.inr (hVV 52 _ rfl)) (Or.inr (hVV 46 _ rfl)) (by decide) (t := .long) (t' := .boolean) (by decide) (by decide)))
  have f49 := f37.other W43 (Or.inr (slot_ne (Or.inr (hVV 40 _ rfl)) (Or.inr (hVV 46 _ rfl)) (by decide) (t := (.object "java/util/List")) (t' := .boolean) (by decide) (by decide)))
  have f50 := f38.other W43 (Or.inr (slot_ne (Or.inr (hVV 42 _ rfl)) (Or.inr (hVV 46 _ rfl)) (by decide) (t := (.object "java/util/List")) (t' := .boolean) (by decide) (by decide)))
  have f51 := f41.other W43 (Or.inr (slot_ne (Or.inr (hVV 44 _ rfl)) (Or.inr (hVV 46 _ rfl)) (by decide) (t := (.object "java/util/List")) (t' := .boolean) (by decide) (by decide)))
  have z52 := Nat.le_trans z39 (Keep.of_wr W43).1
  have k53 := k40.wr W43 (Or.inl (List.mem_of_getElem? (i := 0) rfl))
  have f54 := f33.same W43
  have N55 := Fr.snoc X43 N42 g_a5_0
  obtain ⟨T56, h56, X56, e56, W56, st56⟩ := putF X43 hx hZ hown (host := "") (Or.inl (hVV 47 _ rfl)) Via.refl e43 f46 f45 (Or.inr ⟨(hVV 48 _ rfl), rfl, hnm⟩) (hVV 2 _ rfl) (ty := (.object "java/util/List")) (by decide) rfl rfl (g := (mkF m 28 #[.val (.ref a5_0), .val (.ref a5_1), .val (.ref a5_2), .val (.ref a5_3), .val (.int p5_4), .val (.ref a5_5), .val (.long q5_6), .second, .val (.long q5_7), .second] [(.ref a5_5), (.ref a5_0)])) rfl rfl (hb hby d5_28)
  have pre57 : ∀ t, Steps p.tables e below (T56.setTop (mkF m 31 #[.val (.ref a5_0), .val (.ref a5_1), .val (.ref a5_2), .val (.ref a5_3), .val (.int p5_4), .val (.ref a5_5), .val (.long q5_6), .second, .val (.long q5_7), .second] [])) t → Steps p.tables e below (s₁.setTop (entryFrame m #[(.ref a5_0), (.ref a5_1), (.ref a5_2), (.ref a5_3), (.int p5_4), (.ref a5_5), (.long q5_6), (.long q5_7)] 10)) t := fun t k => pre44 t (by
    show Steps p.tables e below (T43.setTop (mkF m 25 #[.val (.ref a5_0), .val (.ref a5_1), .val (.ref a5_2), .val (.ref a5_3), .val (.int p5_4), .val (.ref a5_5), .val (.long q5_6), .second, .val (.long q5_7), .second] [])) _
    refine XS.aloadN X43.here hx rfl (hb hby d5_25) rfl rfl ?_
    show Steps p.tables e below (T43.setTop (mkF m 26 #[.val (.ref a5_0), .val (.ref a5_1), .val (.ref a5_2), .val (.ref a5_3), .val (.int p5_4), .val (.ref a5_5), .val (.long q5_6), .second, .val (.long q5_7), .second] [(.ref a5_0)])) _
    refine XS.aload X43.here hx rfl (hb hby d5_26) rfl rfl ?_
    show Steps p.tables e below (T43.setTop (mkF m 28 #[.val (.ref a5_0), .val (.ref a5_1), .val (.ref a5_2), .val (.ref a5_3), .val (.int p5_4), .val (.ref a5_5), .val (.long q5_6), .second, .val (.long q5_7), .second] [(.ref a5_5), (.ref a5_0)])) _
    refine st56 _ ?_
    exact k)
  have f58 := f45.wr W56
  have f59 := f47.other W56 (Or.inr (slot_ne (Or.inr (hVV 50 _ rfl)) (Or.inr (hVV 48 _ rfl)) (by decide) (t := .long) (t' := (.object "java/util/List")) (by decide) (by decide)))
  have f60 := f48.other W56 (Or.inr (slot_ne (Or.inr (hVV 52 _ rfl)) (Or.inr (hVV 48 _ rfl)) (by decide) (t := .long) (t' := (.object "java/util/List")) (by decide) (by decide)))
  have f61 := f49.other W56 (Or.inr (slot_ne (Or.inr (hVV 40 _ rfl)) (Or.inr (hVV 48 _ rfl)) (by decide) (t := (.object "java/util/List")) (t' := (.object "java/util/List")) (by decide) (by decide)))
  have f62 := f50.other W56 (Or.inr (slot_ne (Or.inr (hVV 42 _ rfl)) (Or.inr (hVV 48 _ rfl)) (by decide) (t := (.object "java/util/List")) (t' := (.object "java/util/List")) (by decide) (by decide)))
  have f63 := f51.other W56 (Or.inr (slot_ne (Or.inr (hVV 44 _ rfl)) (Or.inr (hVV 48 _ rfl)) (by decide) (t := (.object "java/util/List")) (t' := (.object "java/util/List")) (by decide) (by decide)))
  have f64 := f54.other W56 (Or.inr (slot_ne (Or.inr (hVV 46 _ rfl)) (Or.inr (hVV 48 _ rfl)) (by decide) (t := .boolean) (t' := (.object "java/util/List")) (by decide) (by decide)))
  have z65 := Nat.le_trans z52 (Keep.of_wr W56).1
  have k66 := k53.wr W56 (Or.inl (List.mem_of_getElem? (i := 0) rfl))
  have f67 := f46.same W56
  have N68 := Fr.snoc X56 N55 g_a5_0
  obtain ⟨T69, h69, X69, e69, W69, st69⟩ := putF X56 hx hZ hown (host := "") (Or.inl (hVV 49 _ rfl)) Via.refl e56 f59 f58 (Or.inr ⟨(hVV 50 _ rfl), rfl, hnm⟩) (hVV 2 _ rfl) (ty := .long) (by decide) rfl rfl (g := (mkF m 34 #[.val (.ref a5_0), .val (.ref a5_1), .val (.ref a5_2), .val (.ref a5_3), .val (.int p5_4), .val (.ref a5_5), .val (.long q5_6), .second, .val (.long q5_7), .second] [(.long q5_6), (.ref a5_0)])) rfl rfl (hb hby d5_34)
  have pre70 : ∀ t, Steps p.tables e below (T69.setTop (mkF m 37 #[.val (.ref a5_0), .val (.ref a5_1), .val (.ref a5_2), .val (.ref a5_3), .val (.int p5_4), .val (.ref a5_5), .val (.long q5_6), .second, .val (.long q5_7), .second] [])) t → Steps p.tables e below (s₁.setTop (entryFrame m #[(.ref a5_0), (.ref a5_1), (.ref a5_2), (.ref a5_3), (.int p5_4), (.ref a5_5), (.long q5_6), (.long q5_7)] 10)) t := fun t k => pre57 t (by
    show Steps p.tables e below (T56.setTop (mkF m 31 #[.val (.ref a5_0), .val (.ref a5_1), .val (.ref a5_2), .val (.ref a5_3), .val (.int p5_4), .val (.ref a5_5), .val (.long q5_6), .second, .val (.long q5_7), .second] [])) _
    refine XS.aloadN X56.here hx rfl (hb hby d5_31) rfl rfl ?_
    show Steps p.tables e below (T56.setTop (mkF m 32 #[.val (.ref a5_0), .val (.ref a5_1), .val (.ref a5_2), .val (.ref a5_3), .val (.int p5_4), .val (.ref a5_5), .val (.long q5_6), .second, .val (.long q5_7), .second] [(.ref a5_0)])) _
    refine XS.lload X56.here hx rfl (hb hby d5_32) rfl ?_
    show Steps p.tables e below (T56.setTop (mkF m 34 #[.val (.ref a5_0), .val (.ref a5_1), .val (.ref a5_2), .val (.ref a5_3), .val (.int p5_4), .val (.ref a5_5), .val (.long q5_6), .second, .val (.long q5_7), .second] [(.long q5_6), (.ref a5_0)])) _
    refine st69 _ ?_
    exact k)
  have f71 := f58.wr W69
  have f72 := f60.other W69 (Or.inr (slot_ne (Or.inr (hVV 52 _ rfl)) (Or.inr (hVV 50 _ rfl)) (by decide) (t := .long) (t' := .long) (by decide) (by decide)))
  have f73 := f61.other W69 (Or.inr (slot_ne (Or.inr (hVV 40 _ rfl)) (Or.inr (hVV 50 _ rfl)) (by decide) (t := (.object "java/util/List")) (t' := .long) (by decide) (by decide)))
  have f74 := f62.other W69 (Or.inr (slot_ne (Or.inr (hVV 42 _ rfl)) (Or.inr (hVV 50 _ rfl)) (by decide) (t := (.object "java/util/List")) (t' := .long) (by decide) (by decide)))
  have f75 := f63.other W69 (Or.inr (slot_ne (Or.inr (hVV 44 _ rfl)) (Or.inr (hVV 50 _ rfl)) (by decide) (t := (.object "java/util/List")) (t' := .long) (by decide) (by decide)))
  have f76 := f64.other W69 (Or.inr (slot_ne (Or.inr (hVV 46 _ rfl)) (Or.inr (hVV 50 _ rfl)) (by decide) (t := .boolean) (t' := .long) (by decide) (by decide)))
  have f77 := f67.other W69 (Or.inr (slot_ne (Or.inr (hVV 48 _ rfl)) (Or.inr (hVV 50 _ rfl)) (by decide) (t := (.object "java/util/List")) (t' := .long) (by decide) (by decide)))
  have z78 := Nat.le_trans z65 (Keep.of_wr W69).1
  have k79 := k66.wr W69 (Or.inl (List.mem_of_getElem? (i := 0) rfl))
  have f80 := f59.same W69
  have N81 := Fr.snoc X69 N68 g_a5_0
  obtain ⟨T82, h82, X82, e82, W82, st82⟩ := putF X69 hx hZ hown (host := "") (Or.inl (hVV 51 _ rfl)) Via.refl e69 f72 f71 (Or.inr ⟨(hVV 52 _ rfl), rfl, hnm⟩) (hVV 2 _ rfl) (ty := .long) (by decide) rfl rfl (g := (mkF m 40 #[.val (.ref a5_0), .val (.ref a5_1), .val (.ref a5_2), .val (.ref a5_3), .val (.int p5_4), .val (.ref a5_5), .val (.long q5_6), .second, .val (.long q5_7), .second] [(.long q5_7), (.ref a5_0)])) rfl rfl (hb hby d5_40)
  have pre83 : ∀ t, Steps p.tables e below (T82.setTop (mkF m 43 #[.val (.ref a5_0), .val (.ref a5_1), .val (.ref a5_2), .val (.ref a5_3), .val (.int p5_4), .val (.ref a5_5), .val (.long q5_6), .second, .val (.long q5_7), .second] [])) t → Steps p.tables e below (s₁.setTop (entryFrame m #[(.ref a5_0), (.ref a5_1), (.ref a5_2), (.ref a5_3), (.int p5_4), (.ref a5_5), (.long q5_6), (.long q5_7)] 10)) t := fun t k => pre70 t (by
    show Steps p.tables e below (T69.setTop (mkF m 37 #[.val (.ref a5_0), .val (.ref a5_1), .val (.ref a5_2), .val (.ref a5_3), .val (.int p5_4), .val (.ref a5_5), .val (.long q5_6), .second, .val (.long q5_7), .second] [])) _
    refine XS.aloadN X69.here hx rfl (hb hby d5_37) rfl rfl ?_
    show Steps p.tables e below (T69.setTop (mkF m 38 #[.val (.ref a5_0), .val (.ref a5_1), .val (.ref a5_2), .val (.ref a5_3), .val (.int p5_4), .val (.ref a5_5), .val (.long q5_6), .second, .val (.long q5_7), .second] [(.ref a5_0)])) _
    refine XS.lload X69.here hx rfl (hb hby d5_38) rfl ?_
    show Steps p.tables e below (T69.setTop (mkF m 40 #[.val (.ref a5_0), .val (.ref a5_1), .val (.ref a5_2), .val (.ref a5_3), .val (.int p5_4), .val (.ref a5_5), .val (.long q5_6), .second, .val (.long q5_7), .second] [(.long q5_7), (.ref a5_0)])) _
    refine st82 _ ?_
    exact k)
  have f84 := f71.wr W82
  have f85 := f73.other W82 (Or.inr (slot_ne (Or.inr (hVV 40 _ rfl)) (Or.inr (hVV 52 _ rfl)) (by decide) (t := (.object "java/util/List")) (t' := .long) (by decide) (by decide)))
  have f86 := f74.other W82 (Or.inr (slot_ne (Or.inr (hVV 42 _ rfl)) (Or.inr (hVV 52 _ rfl)) (by decide) (t := (.object "java/util/List")) (t' := .long) (by decide) (by decide)))
  have f87 := f75.other W82 (Or.inr (slot_ne (Or.inr (hVV 44 _ rfl)) (Or.inr (hVV 52 _ rfl)) (by decide) (t := (.object "java/util/List")) (t' := .long) (by decide) (by decide)))
  have f88 := f76.other W82 (Or.inr (slot_ne (Or.inr (hVV 46 _ rfl)) (Or.inr (hVV 52 _ rfl)) (by decide) (t := .boolean) (t' := .long) (by decide) (by decide)))
  have f89 := f77.other W82 (Or.inr (slot_ne (Or.inr (hVV 48 _ rfl)) (Or.inr (hVV 52 _ rfl)) (by decide) (t := (.object "java/util/List")) (t' := .long) (by decide) (by decide)))
  have f90 := f80.other W82 (Or.inr (slot_ne (Or.inr (hVV 50 _ rfl)) (Or.inr (hVV 52 _ rfl)) (by decide) (t := .long) (t' := .long) (by decide) (by decide)))
  have z91 := Nat.le_trans z78 (Keep.of_wr W82).1
  have k92 := k79.wr W82 (Or.inl (List.mem_of_getElem? (i := 0) rfl))
  have f93 := f72.same W82
  have N94 := Fr.snoc X82 N81 g_a5_0
  obtain ⟨fs, hr, hrun, hended, hW, hsame⟩ := X82.leave (v := none) (fun _ => rfl)
  refine ⟨_, _, pre83 _ ?_, hrun, hended, _, _, rfl, ?_, ⟨_, rfl⟩, hW, hsame.mono (by decide) (by decide)⟩
  · show Steps p.tables e below (T82.setTop (mkF m 43 #[.val (.ref a5_0), .val (.ref a5_1), .val (.ref a5_2), .val (.ref a5_3), .val (.int p5_4), .val (.ref a5_5), .val (.long q5_6), .second, .val (.long q5_7), .second] [])) _
    exact X82.returnOut hx Bd.returns (hb hby d5_43) hr
  · show Q5 Z a5_0 a5_1 a5_2 a5_3 p5_4 a5_5 q5_6 q5_7 w5_projection_a5_0 w5_patterns_a5_0 w5_filters_a5_0 w5_distinct_a5_0 w5_orderBy_a5_0 w5_offset_a5_0 w5_limit_a5_0 h0 n0 _ T82.heap _
    rw [e82]
    exact ⟨rfl, N94, k92, f84, f85, f86, f87, f88, f89, f90, f93⟩
theorem d7_0 : decode prog_81_method_4_code 0 = .ok (.aload_n 0, 1) := by decide +kernel
theorem d7_1 : decode prog_81_method_4_code 1 = .ok (.getfield 26, 3) := by decide +kernel
theorem d7_4 : decode prog_81_method_4_code 4 = .ok (.lconst 0, 1) := by decide +kernel
theorem d7_5 : decode prog_81_method_4_code 5 = .ok (.lcmp, 1) := by decide +kernel
theorem d7_6 : decode prog_81_method_4_code 6 = .ok (.ifCond .gt 14, 3) := by decide +kernel
theorem d7_9 : decode prog_81_method_4_code 9 = .ok (.aload_n 0, 1) := by decide +kernel
theorem d7_10 : decode prog_81_method_4_code 10 = .ok (.getfield 30, 3) := by decide +kernel
theorem d7_13 : decode prog_81_method_4_code 13 = .ok (.ldc2_w 82, 3) := by decide +kernel
theorem d7_16 : decode prog_81_method_4_code 16 = .ok (.lcmp, 1) := by decide +kernel
theorem d7_17 : decode prog_81_method_4_code 17 = .ok (.ifCond .ge 7, 3) := by decide +kernel
theorem d7_20 : decode prog_81_method_4_code 20 = .ok (.iconst 1, 1) := by decide +kernel
theorem d7_21 : decode prog_81_method_4_code 21 = .ok (.goto 4, 3) := by decide +kernel
theorem d7_24 : decode prog_81_method_4_code 24 = .ok (.iconst 0, 1) := by decide +kernel
theorem d7_25 : decode prog_81_method_4_code 25 = .ok (.ireturn, 1) := by decide +kernel
theorem pn_7 : plainName "com/example/tripleshard/tripleshard/sparql/Query" = true := by first | (simp [plainName, overriddenIn]; done) | decide +kernel
theorem ef_7 (m : MethodId) (x0 : Addr) : entryFrame m #[(.ref x0)] 1 = mkF m 0 #[.val (.ref x0)] [] := by first | (simp [entryFrame, mkF, argsToLocals, Value.category]; done) | rfl
def Q7 (Z : State) (a7_0 : Addr) (w7_offset_a7_0 : Int64) (w7_limit_a7_0 : Int64) (h0 : Heap) (n0 : Nat) (v : Option Value) (h : Heap) (L : List Loc) : Prop := v = some (.int (bI (((0 : Int64) < w7_offset_a7_0) ∨ (w7_limit_a7_0 < (9223372036854775807 : Int64))))) ∧ Fr n0 L ∧ h = h0
set_option maxRecDepth 65536 in
set_option maxHeartbeats 40000000 in
theorem rm7 (l : Launch) (Z : State) (a0 : Array Value) (hw : ∀ d ∈ tables_1, d.before a0 Z = true) (ws : List Jvm.Cond) (a7_0 : Addr) (w7_offset_a7_0 : Int64) (w7_limit_a7_0 : Int64) (h0 : Heap) (n0 : Nat) (Z0 : n0 ≤ h0.size) (F_offset_a7_0 : Fld Z h0 a7_0 "com/example/tripleshard/tripleshard/sparql/Query" "offset" "J" (.long w7_offset_a7_0)) (F_limit_a7_0 : Fld Z h0 a7_0 "com/example/tripleshard/tripleshard/sparql/Query" "limit" "J" (.long w7_limit_a7_0)) :
    MetFree l (⟨"com/example/tripleshard/tripleshard/sparql/Query", "sliced", "()Z"⟩ : MethodName) (head1 (Jvm.Cond.code (⟨"com/example/tripleshard/tripleshard/sparql/Query", "sliced", "()Z"⟩ : MethodName) prog_81_method_4_code 1 (some .boolean) :: ws) ({ frames := 0, cells := 0, slots := 0, locals := 0 } : Room)) (fun a U => a = #[(.ref a7_0)] ∧ Z.Warmed39 U.vm ∧ U.heap = h0) (fun _ _ _ _ _ => True) (fun _ U o U' => ∃ v L, o = .returned v ∧ Q7 Z a7_0 w7_offset_a7_0 w7_limit_a7_0 h0 n0 v U'.heap L ∧ FrameEnd U o U' L ({ frames := 0, cells := 0, slots := 0, locals := 0 } : Room).cells ({ frames := 0, cells := 0, slots := 0, locals := 0 } : Room).slots) := by
  refine MetFree.of_bodySF (plainFor_of_name pn_7) hisR ?_
  intro p e s m args below meth c s₁ Bd hml0 hP hK
  obtain ⟨rfl, hZ, hh⟩ := hP
  have hVV : ∀ (i : Nat) (d : Jvm.Cond), tables_1[i]? = some d → d.before a0 Z = true := fun i d h => hw d (List.mem_of_getElem? h)
  have hx := Bd.exec
  have hby := Bd.bytes
  have hml : c.maxLocals = 1 := hml0
  have hown : s.vm.findClass "com/example/tripleshard/tripleshard/sparql/Query" = some m.cls := findClass_of_methodNamed Bd.named
  have hnm := (name_of_methodNamed Bd.named Bd.method).1
  have X0 : Stand p l e ({ frames := 0, cells := 0, slots := 0, locals := 0 } : Room) s m #[(.ref a7_0)] below meth c s₁ [] 0 0 := Stand.of_body Bd
  have e0 : s₁.heap = h0 := by rw [← hh, Bd.state]; rfl
  have N0 := Fr.nil n0
  have pre0 : ∀ t, Steps p.tables e below (s₁.setTop (mkF m 0 #[.val (.ref a7_0)] [])) t → Steps p.tables e below (s₁.setTop (entryFrame m #[(.ref a7_0)] 1)) t := fun t k => castTop (ef_7 m a7_0) k
  obtain ⟨T1, X1, e1, st1⟩ := getF X0 hx hZ hown (host := "") (Or.inl (hVV 49 _ rfl)) Via.refl e0 F_offset_a7_0 (g := (mkF m 1 #[.val (.ref a7_0)] [(.ref a7_0)])) rfl rfl (hb hby d7_1)
  have pre2 : ∀ t, Steps p.tables e below (T1.setTop (mkF m 4 #[.val (.ref a7_0)] [(.long w7_offset_a7_0)])) t → Steps p.tables e below (s₁.setTop (entryFrame m #[(.ref a7_0)] 1)) t := fun t k => pre0 t (by
    show Steps p.tables e below (s₁.setTop (mkF m 0 #[.val (.ref a7_0)] [])) _
    refine XS.aloadN X0.here hx rfl (hb hby d7_0) rfl rfl ?_
    show Steps p.tables e below (s₁.setTop (mkF m 1 #[.val (.ref a7_0)] [(.ref a7_0)])) _
    refine st1 _ ?_
    exact k)
  by_cases hc3 : (0 : Int64) < w7_offset_a7_0
  · obtain ⟨fs, hr, hrun, hended, hW, hsame⟩ := X1.leave (v := some (.int (1 : Int32))) (fun h => by rw [Bd.returns] at h; cases h)
    refine ⟨_, _, pre2 _ ?_, hrun, hended, _, _, rfl, ?_, ⟨_, rfl⟩, hW, hsame.mono (by decide) (by decide)⟩
    · show Steps p.tables e below (T1.setTop (mkF m 4 #[.val (.ref a7_0)] [(.long w7_offset_a7_0)])) _
      refine XS.lconst X1.here hx rfl (hb hby d7_4) ?_
      show Steps p.tables e below (T1.setTop (mkF m 5 #[.val (.ref a7_0)] [(.long (0 : Int64)), (.long w7_offset_a7_0)])) _
      refine XS.lcmp X1.here hx rfl (hb hby d7_5) rfl ?_
      show Steps p.tables e below (T1.setTop (mkF m 6 #[.val (.ref a7_0)] [(.int (lcmpW w7_offset_a7_0 (0 : Int64)))])) _
      refine XS.ifYes X1.here hx rfl (pc0 := 6) (pc' := 20) rfl (hb hby d7_6) rfl ((if0 _ _).trans (tlt ((lw_gt _ _).mpr hc3)).2.2.1) (by decide) (by decide) ?_
      show Steps p.tables e below (T1.setTop (mkF m 20 #[.val (.ref a7_0)] [])) _
      refine XS.iconst X1.here hx rfl (hb hby d7_20) ?_
      show Steps p.tables e below (T1.setTop (mkF m 21 #[.val (.ref a7_0)] [(.int (1 : Int32))])) _
      refine XS.goto X1.here hx rfl (pc0 := 21) (pc' := 25) rfl (hb hby d7_21) (by decide) (by decide) ?_
      show Steps p.tables e below (T1.setTop (mkF m 25 #[.val (.ref a7_0)] [(.int (1 : Int32))])) _
      exact retN X1 hx (t := .boolean) Bd.returns (by simp) (hb hby d7_25) hr
    · show Q7 Z a7_0 w7_offset_a7_0 w7_limit_a7_0 h0 n0 _ T1.heap _
      rw [e1]
      exact ⟨(congrArg (fun z => some (Value.int z)) ((bI_t (Or.inl hc3)) : (bI (((0 : Int64) < w7_offset_a7_0) ∨ (w7_limit_a7_0 < (9223372036854775807 : Int64)))) = (1 : Int32)).symm), N0, rfl⟩
  · obtain ⟨T4, X4, e4, st4⟩ := getF X1 hx hZ hown (host := "") (Or.inl (hVV 51 _ rfl)) Via.refl e1 F_limit_a7_0 (g := (mkF m 10 #[.val (.ref a7_0)] [(.ref a7_0)])) rfl rfl (hb hby d7_10)
    have pre5 : ∀ t, Steps p.tables e below (T4.setTop (mkF m 13 #[.val (.ref a7_0)] [(.long w7_limit_a7_0)])) t → Steps p.tables e below (s₁.setTop (entryFrame m #[(.ref a7_0)] 1)) t := fun t k => pre2 t (by
      show Steps p.tables e below (T1.setTop (mkF m 4 #[.val (.ref a7_0)] [(.long w7_offset_a7_0)])) _
      refine XS.lconst X1.here hx rfl (hb hby d7_4) ?_
      show Steps p.tables e below (T1.setTop (mkF m 5 #[.val (.ref a7_0)] [(.long (0 : Int64)), (.long w7_offset_a7_0)])) _
      refine XS.lcmp X1.here hx rfl (hb hby d7_5) rfl ?_
      show Steps p.tables e below (T1.setTop (mkF m 6 #[.val (.ref a7_0)] [(.int (lcmpW w7_offset_a7_0 (0 : Int64)))])) _
      refine XS.ifNo X1.here hx rfl (hb hby d7_6) rfl ((if0 _ _).trans (flt (fun q => hc3 ((lw_gt _ _).mp q))).2.2.1) ?_
      show Steps p.tables e below (T1.setTop (mkF m 9 #[.val (.ref a7_0)] [])) _
      refine XS.aloadN X1.here hx rfl (hb hby d7_9) rfl rfl ?_
      show Steps p.tables e below (T1.setTop (mkF m 10 #[.val (.ref a7_0)] [(.ref a7_0)])) _
      refine st4 _ ?_
      exact k)
    by_cases hc6 : w7_limit_a7_0 < (9223372036854775807 : Int64)
    · obtain ⟨fs, hr, hrun, hended, hW, hsame⟩ := X4.leave (v := some (.int (1 : Int32))) (fun h => by rw [Bd.returns] at h; cases h)
      refine ⟨_, _, pre5 _ ?_, hrun, hended, _, _, rfl, ?_, ⟨_, rfl⟩, hW, hsame.mono (by decide) (by decide)⟩
      · show Steps p.tables e below (T4.setTop (mkF m 13 #[.val (.ref a7_0)] [(.long w7_limit_a7_0)])) _
        refine X4.ldc2Long hx hown (mvT hZ (hVV 58 _ rfl)) (g := (mkF m 13 #[.val (.ref a7_0)] [(.long w7_limit_a7_0)])) rfl (hb hby d7_13) _ ?_
        show Steps p.tables e below (T4.setTop (mkF m 16 #[.val (.ref a7_0)] [(.long (9223372036854775807 : Int64)), (.long w7_limit_a7_0)])) _
        refine XS.lcmp X4.here hx rfl (hb hby d7_16) rfl ?_
        show Steps p.tables e below (T4.setTop (mkF m 17 #[.val (.ref a7_0)] [(.int (lcmpW w7_limit_a7_0 (9223372036854775807 : Int64)))])) _
        refine XS.ifNo X4.here hx rfl (hb hby d7_17) rfl ((if0 _ _).trans (tlt ((lw_lt _ _).mpr hc6)).2.1) ?_
        show Steps p.tables e below (T4.setTop (mkF m 20 #[.val (.ref a7_0)] [])) _
        refine XS.iconst X4.here hx rfl (hb hby d7_20) ?_
        show Steps p.tables e below (T4.setTop (mkF m 21 #[.val (.ref a7_0)] [(.int (1 : Int32))])) _
        refine XS.goto X4.here hx rfl (pc0 := 21) (pc' := 25) rfl (hb hby d7_21) (by decide) (by decide) ?_
        show Steps p.tables e below (T4.setTop (mkF m 25 #[.val (.ref a7_0)] [(.int (1 : Int32))])) _
        exact retN X4 hx (t := .boolean) Bd.returns (by simp) (hb hby d7_25) hr
      · show Q7 Z a7_0 w7_offset_a7_0 w7_limit_a7_0 h0 n0 _ T4.heap _
        rw [e4]
        exact ⟨(congrArg (fun z => some (Value.int z)) ((bI_t (Or.inr hc6)) : (bI (((0 : Int64) < w7_offset_a7_0) ∨ (w7_limit_a7_0 < (9223372036854775807 : Int64)))) = (1 : Int32)).symm), N0, rfl⟩
    · obtain ⟨fs, hr, hrun, hended, hW, hsame⟩ := X4.leave (v := some (.int (0 : Int32))) (fun h => by rw [Bd.returns] at h; cases h)
      refine ⟨_, _, pre5 _ ?_, hrun, hended, _, _, rfl, ?_, ⟨_, rfl⟩, hW, hsame.mono (by decide) (by decide)⟩
      · show Steps p.tables e below (T4.setTop (mkF m 13 #[.val (.ref a7_0)] [(.long w7_limit_a7_0)])) _
        refine X4.ldc2Long hx hown (mvT hZ (hVV 58 _ rfl)) (g := (mkF m 13 #[.val (.ref a7_0)] [(.long w7_limit_a7_0)])) rfl (hb hby d7_13) _ ?_
        show Steps p.tables e below (T4.setTop (mkF m 16 #[.val (.ref a7_0)] [(.long (9223372036854775807 : Int64)), (.long w7_limit_a7_0)])) _
        refine XS.lcmp X4.here hx rfl (hb hby d7_16) rfl ?_
        show Steps p.tables e below (T4.setTop (mkF m 17 #[.val (.ref a7_0)] [(.int (lcmpW w7_limit_a7_0 (9223372036854775807 : Int64)))])) _
        refine XS.ifYes X4.here hx rfl (pc0 := 17) (pc' := 24) rfl (hb hby d7_17) rfl ((if0 _ _).trans (flt (fun q => hc6 ((lw_lt _ _).mp q))).2.1) (by decide) (by decide) ?_
        show Steps p.tables e below (T4.setTop (mkF m 24 #[.val (.ref a7_0)] [])) _
        refine XS.iconst X4.here hx rfl (hb hby d7_24) ?_
        show Steps p.tables e below (T4.setTop (mkF m 25 #[.val (.ref a7_0)] [(.int (0 : Int32))])) _
        exact retN X4 hx (t := .boolean) Bd.returns (by simp) (hb hby d7_25) hr
      · show Q7 Z a7_0 w7_offset_a7_0 w7_limit_a7_0 h0 n0 _ T4.heap _
        rw [e4]
        exact ⟨(congrArg (fun z => some (Value.int z)) ((bI_f (fun z => z.elim hc3 hc6)) : (bI (((0 : Int64) < w7_offset_a7_0) ∨ (w7_limit_a7_0 < (9223372036854775807 : Int64)))) = (0 : Int32)).symm), N0, rfl⟩
theorem pd_1 : parseMethodDescriptor "(Ljava/util/List;Ljava/util/List;Ljava/util/List;ZLjava/util/List;JJ)V" = some ⟨[(.object "java/util/List"), (.object "java/util/List"), (.object "java/util/List"), .boolean, (.object "java/util/List"), .long, .long], none⟩ := by decide +kernel
theorem pd_2 : parseMethodDescriptor "()Z" = some ⟨[], some .boolean⟩ := by decide +kernel
theorem pn_0 : plainName "com/example/tripleshard/tripleshard/sparql/QuerySlicedPinLaw" = true := by first | (simp [plainName, overriddenIn]; done) | decide +kernel
theorem ef_0 (m : MethodId) (x0 : Int64) (x1 : Int64) (x2 : Int32) : entryFrame m #[(.long x0), (.long x1), (.int x2)] maxLocals = mkF m 0 #[.val (.long x0), .second, .val (.long x1), .second, .val (.int x2), .unset, .unset, .unset, .unset, .unset, .unset, .unset, .unset, .unset] [] := by first | (simp [entryFrame, mkF, argsToLocals, Value.category, maxLocals]; done) | rfl
def Q0 (Z : State) (q0_0 : Int64) (q0_1 : Int64) (p0_2 : Int32) (w0_DEFAULTCAPACITY_EMPTY_ELEMENTDATA : Addr) (h0 : Heap) (n0 : Nat) (v : Option Value) (h : Heap) (L : List Loc) : Prop := v = some (.int (1 : Int32)) ∧ Fr n0 L
set_option maxRecDepth 65536 in
set_option maxHeartbeats 40000000 in
theorem rm0 (l : Launch) (Z : State) (a0 : Array Value) (hw : ∀ d ∈ tables_1, d.before a0 Z = true) (ws : List Jvm.Cond) (q0_0 : Int64) (q0_1 : Int64) (p0_2 : Int32) (w0_DEFAULTCAPACITY_EMPTY_ELEMENTDATA : Addr) (h0 : Heap) (n0 : Nat) (Z0 : n0 ≤ h0.size) (O0 : Old Z n0 h0) (S_DEFAULTCAPACITY_EMPTY_ELEMENTDATA : Sta Z Z.heap "java/util/ArrayList" "DEFAULTCAPACITY_EMPTY_ELEMENTDATA" "[Ljava/lang/Object;" (.ref w0_DEFAULTCAPACITY_EMPTY_ELEMENTDATA)) :
    MetFree l x (head1 (Jvm.Cond.code x code maxLocals ret :: ws) room_1) (fun a U => a = #[(.long q0_0), (.long q0_1), (.int p0_2)] ∧ Z.Warmed39 U.vm ∧ U.heap = h0) (fun _ _ _ _ _ => True) (fun _ U o U' => ∃ v L, o = .returned v ∧ Q0 Z q0_0 q0_1 p0_2 w0_DEFAULTCAPACITY_EMPTY_ELEMENTDATA h0 n0 v U'.heap L ∧ FrameEnd U o U' L room_1.cells room_1.slots) := by
  refine MetFree.of_bodySF (plainFor_of_name pn_0) hisR ?_
  intro p e s m args below meth c s₁ Bd hml0 hP hK
  obtain ⟨rfl, hZ, hh⟩ := hP
  have hVV : ∀ (i : Nat) (d : Jvm.Cond), tables_1[i]? = some d → d.before a0 Z = true := fun i d h => hw d (List.mem_of_getElem? h)
  have hx := Bd.exec
  have hby := Bd.bytes
  have hml : c.maxLocals = 14 := hml0
  have hown : s.vm.findClass "com/example/tripleshard/tripleshard/sparql/QuerySlicedPinLaw" = some m.cls := findClass_of_methodNamed Bd.named
  have hnm := (name_of_methodNamed Bd.named Bd.method).1
  have X0 : Stand p l e room_1 s m #[(.long q0_0), (.long q0_1), (.int p0_2)] below meth c s₁ [] 0 0 := Stand.of_body Bd
  have e0 : s₁.heap = h0 := by rw [← hh, Bd.state]; rfl
  have N0 := Fr.nil n0
  have pre0 : ∀ t, Steps p.tables e below (s₁.setTop (mkF m 0 #[.val (.long q0_0), .second, .val (.long q0_1), .second, .val (.int p0_2), .unset, .unset, .unset, .unset, .unset, .unset, .unset, .unset, .unset] [])) t → Steps p.tables e below (s₁.setTop (entryFrame m #[(.long q0_0), (.long q0_1), (.int p0_2)] maxLocals)) t := fun t k => castTop (ef_0 m q0_0 q0_1 p0_2) k
  have pre2 : ∀ t, Steps p.tables e below (s₁.setTop (mkF m 4 #[.val (.long q0_0), .second, .val (.long q0_1), .second, .val (.int p0_2), .unset, .unset, .unset, .unset, .unset, .unset, .unset, .unset, .unset] [(.int (p0_2 &&& (1 : Int32)))])) t → Steps p.tables e below (s₁.setTop (entryFrame m #[(.long q0_0), (.long q0_1), (.int p0_2)] maxLocals)) t := fun t k => pre0 t (by
    show Steps p.tables e below (s₁.setTop (mkF m 0 #[.val (.long q0_0), .second, .val (.long q0_1), .second, .val (.int p0_2), .unset, .unset, .unset, .unset, .unset, .unset, .unset, .unset, .unset] [])) _
    refine XS.iload X0.here hx rfl (hb hby at_0) rfl ?_
    show Steps p.tables e below (s₁.setTop (mkF m 2 #[.val (.long q0_0), .second, .val (.long q0_1), .second, .val (.int p0_2), .unset, .unset, .unset, .unset, .unset, .unset, .unset, .unset, .unset] [(.int p0_2)])) _
    refine XS.iconst X0.here hx rfl (hb hby at_2) ?_
    show Steps p.tables e below (s₁.setTop (mkF m 3 #[.val (.long q0_0), .second, .val (.long q0_1), .second, .val (.int p0_2), .unset, .unset, .unset, .unset, .unset, .unset, .unset, .unset, .unset] [(.int (1 : Int32)), (.int p0_2)])) _
    refine XS.iand X0.here hx rfl (hb hby at_3) rfl ?_
    exact k)
  have pre3 : ∀ t, Steps p.tables e below (s₁.setTop (mkF m 16 #[.val (.long q0_0), .second, .val (.long q0_1), .second, .val (.int p0_2), .unset, .unset, .unset, .unset, .unset, .unset, .unset, .unset, .unset] [(.long (if (p0_2 &&& (1 : Int32)) = (0 : Int32) then (q0_0 &&& (9223372036854775807 : Int64)) else (0 : Int64)))])) t → Steps p.tables e below (s₁.setTop (entryFrame m #[(.long q0_0), (.long q0_1), (.int p0_2)] maxLocals)) t := fun t k => pre2 t (by
    by_cases hc1 : (p0_2 &&& (1 : Int32)) = (0 : Int32)
    · show Steps p.tables e below (s₁.setTop (mkF m 4 #[.val (.long q0_0), .second, .val (.long q0_1), .second, .val (.int p0_2), .unset, .unset, .unset, .unset, .unset, .unset, .unset, .unset, .unset] [(.int (p0_2 &&& (1 : Int32)))])) _
      refine XS.ifYes X0.here hx rfl (pc0 := 4) (pc' := 11) rfl (hb hby at_4) rfl ((if0 _ _).trans (teq hc1).1) (by decide) (by decide) ?_
      show Steps p.tables e below (s₁.setTop (mkF m 11 #[.val (.long q0_0), .second, .val (.long q0_1), .second, .val (.int p0_2), .unset, .unset, .unset, .unset, .unset, .unset, .unset, .unset, .unset] [])) _
      refine XS.lloadN X0.here hx rfl (hb hby at_11) rfl ?_
      show Steps p.tables e below (s₁.setTop (mkF m 12 #[.val (.long q0_0), .second, .val (.long q0_1), .second, .val (.int p0_2), .unset, .unset, .unset, .unset, .unset, .unset, .unset, .unset, .unset] [(.long q0_0)])) _
      refine X0.ldc2Long hx hown (mvT hZ (hVV 0 _ rfl)) (g := (mkF m 12 #[.val (.long q0_0), .second, .val (.long q0_1), .second, .val (.int p0_2), .unset, .unset, .unset, .unset, .unset, .unset, .unset, .unset, .unset] [(.long q0_0)])) rfl (hb hby at_12) _ ?_
      show Steps p.tables e below (s₁.setTop (mkF m 15 #[.val (.long q0_0), .second, .val (.long q0_1), .second, .val (.int p0_2), .unset, .unset, .unset, .unset, .unset, .unset, .unset, .unset, .unset] [(.long (9223372036854775807 : Int64)), (.long q0_0)])) _
      refine XS.land X0.here hx rfl (hb hby at_15) rfl ?_
      have q4 : (if (p0_2 &&& (1 : Int32)) = (0 : Int32) then (q0_0 &&& (9223372036854775807 : Int64)) else (0 : Int64)) = (q0_0 &&& (9223372036854775807 : Int64)) := (if_pos hc1)
      exact castTop (g := (mkF m 16 #[.val (.long q0_0), .second, .val (.long q0_1), .second, .val (.int p0_2), .unset, .unset, .unset, .unset, .unset, .unset, .unset, .unset, .unset] [(.long (q0_0 &&& (9223372036854775807 : Int64)))])) (g' := (mkF m 16 #[.val (.long q0_0), .second, .val (.long q0_1), .second, .val (.int p0_2), .unset, .unset, .unset, .unset, .unset, .unset, .unset, .unset, .unset] [(.long (if (p0_2 &&& (1 : Int32)) = (0 : Int32) then (q0_0 &&& (9223372036854775807 : Int64)) else (0 : Int64)))])) (by simp only [q4]) k
    · show Steps p.tables e below (s₁.setTop (mkF m 4 #[.val (.long q0_0), .second, .val (.long q0_1), .second, .val (.int p0_2), .unset, .unset, .unset, .unset, .unset, .unset, .unset, .unset, .unset] [(.int (p0_2 &&& (1 : Int32)))])) _
      refine XS.ifNo X0.here hx rfl (hb hby at_4) rfl ((if0 _ _).trans (feq hc1).1) ?_
      show Steps p.tables e below (s₁.setTop (mkF m 7 #[.val (.long q0_0), .second, .val (.long q0_1), .second, .val (.int p0_2), .unset, .unset, .unset, .unset, .unset, .unset, .unset, .unset, .unset] [])) _
      refine XS.lconst X0.here hx rfl (hb hby at_7) ?_
      show Steps p.tables e below (s₁.setTop (mkF m 8 #[.val (.long q0_0), .second, .val (.long q0_1), .second, .val (.int p0_2), .unset, .unset, .unset, .unset, .unset, .unset, .unset, .unset, .unset] [(.long (0 : Int64))])) _
      refine XS.goto X0.here hx rfl (pc0 := 8) (pc' := 16) rfl (hb hby at_8) (by decide) (by decide) ?_
      have q5 : (if (p0_2 &&& (1 : Int32)) = (0 : Int32) then (q0_0 &&& (9223372036854775807 : Int64)) else (0 : Int64)) = (0 : Int64) := (if_neg hc1)
      exact castTop (g := (mkF m 16 #[.val (.long q0_0), .second, .val (.long q0_1), .second, .val (.int p0_2), .unset, .unset, .unset, .unset, .unset, .unset, .unset, .unset, .unset] [(.long (0 : Int64))])) (g' := (mkF m 16 #[.val (.long q0_0), .second, .val (.long q0_1), .second, .val (.int p0_2), .unset, .unset, .unset, .unset, .unset, .unset, .unset, .unset, .unset] [(.long (if (p0_2 &&& (1 : Int32)) = (0 : Int32) then (q0_0 &&& (9223372036854775807 : Int64)) else (0 : Int64)))])) (by simp only [q5]) k)
  have pre7 : ∀ t, Steps p.tables e below (s₁.setTop (mkF m 22 #[.val (.long q0_0), .second, .val (.long q0_1), .second, .val (.int p0_2), .val (.long (if (p0_2 &&& (1 : Int32)) = (0 : Int32) then (q0_0 &&& (9223372036854775807 : Int64)) else (0 : Int64))), .second, .unset, .unset, .unset, .unset, .unset, .unset, .unset] [(.int (p0_2 &&& (2 : Int32)))])) t → Steps p.tables e below (s₁.setTop (entryFrame m #[(.long q0_0), (.long q0_1), (.int p0_2)] maxLocals)) t := fun t k => pre3 t (by
    show Steps p.tables e below (s₁.setTop (mkF m 16 #[.val (.long q0_0), .second, .val (.long q0_1), .second, .val (.int p0_2), .unset, .unset, .unset, .unset, .unset, .unset, .unset, .unset, .unset] [(.long (if (p0_2 &&& (1 : Int32)) = (0 : Int32) then (q0_0 &&& (9223372036854775807 : Int64)) else (0 : Int64)))])) _
    refine XS.lstore X0.here hx rfl (hb hby at_16) rfl (l' := #[.val (.long q0_0), .second, .val (.long q0_1), .second, .val (.int p0_2), .val (.long (if (p0_2 &&& (1 : Int32)) = (0 : Int32) then (q0_0 &&& (9223372036854775807 : Int64)) else (0 : Int64))), .second, .unset, .unset, .unset, .unset, .unset, .unset, .unset]) rfl ?_
    show Steps p.tables e below (s₁.setTop (mkF m 18 #[.val (.long q0_0), .second, .val (.long q0_1), .second, .val (.int p0_2), .val (.long (if (p0_2 &&& (1 : Int32)) = (0 : Int32) then (q0_0 &&& (9223372036854775807 : Int64)) else (0 : Int64))), .second, .unset, .unset, .unset, .unset, .unset, .unset, .unset] [])) _
    refine XS.iload X0.here hx rfl (hb hby at_18) rfl ?_
    show Steps p.tables e below (s₁.setTop (mkF m 20 #[.val (.long q0_0), .second, .val (.long q0_1), .second, .val (.int p0_2), .val (.long (if (p0_2 &&& (1 : Int32)) = (0 : Int32) then (q0_0 &&& (9223372036854775807 : Int64)) else (0 : Int64))), .second, .unset, .unset, .unset, .unset, .unset, .unset, .unset] [(.int p0_2)])) _
    refine XS.iconst X0.here hx rfl (hb hby at_20) ?_
    show Steps p.tables e below (s₁.setTop (mkF m 21 #[.val (.long q0_0), .second, .val (.long q0_1), .second, .val (.int p0_2), .val (.long (if (p0_2 &&& (1 : Int32)) = (0 : Int32) then (q0_0 &&& (9223372036854775807 : Int64)) else (0 : Int64))), .second, .unset, .unset, .unset, .unset, .unset, .unset, .unset] [(.int (2 : Int32)), (.int p0_2)])) _
    refine XS.iand X0.here hx rfl (hb hby at_21) rfl ?_
    exact k)
  have pre8 : ∀ t, Steps p.tables e below (s₁.setTop (mkF m 36 #[.val (.long q0_0), .second, .val (.long q0_1), .second, .val (.int p0_2), .val (.long (if (p0_2 &&& (1 : Int32)) = (0 : Int32) then (q0_0 &&& (9223372036854775807 : Int64)) else (0 : Int64))), .second, .unset, .unset, .unset, .unset, .unset, .unset, .unset] [(.long (if (p0_2 &&& (2 : Int32)) = (0 : Int32) then (q0_1 &&& (9223372036854775807 : Int64)) else (9223372036854775807 : Int64)))])) t → Steps p.tables e below (s₁.setTop (entryFrame m #[(.long q0_0), (.long q0_1), (.int p0_2)] maxLocals)) t := fun t k => pre7 t (by
    by_cases hc6 : (p0_2 &&& (2 : Int32)) = (0 : Int32)
    · show Steps p.tables e below (s₁.setTop (mkF m 22 #[.val (.long q0_0), .second, .val (.long q0_1), .second, .val (.int p0_2), .val (.long (if (p0_2 &&& (1 : Int32)) = (0 : Int32) then (q0_0 &&& (9223372036854775807 : Int64)) else (0 : Int64))), .second, .unset, .unset, .unset, .unset, .unset, .unset, .unset] [(.int (p0_2 &&& (2 : Int32)))])) _
      refine XS.ifYes X0.here hx rfl (pc0 := 22) (pc' := 31) rfl (hb hby at_22) rfl ((if0 _ _).trans (teq hc6).1) (by decide) (by decide) ?_
      show Steps p.tables e below (s₁.setTop (mkF m 31 #[.val (.long q0_0), .second, .val (.long q0_1), .second, .val (.int p0_2), .val (.long (if (p0_2 &&& (1 : Int32)) = (0 : Int32) then (q0_0 &&& (9223372036854775807 : Int64)) else (0 : Int64))), .second, .unset, .unset, .unset, .unset, .unset, .unset, .unset] [])) _
      refine XS.lloadN X0.here hx rfl (hb hby at_31) rfl ?_
      show Steps p.tables e below (s₁.setTop (mkF m 32 #[.val (.long q0_0), .second, .val (.long q0_1), .second, .val (.int p0_2), .val (.long (if (p0_2 &&& (1 : Int32)) = (0 : Int32) then (q0_0 &&& (9223372036854775807 : Int64)) else (0 : Int64))), .second, .unset, .unset, .unset, .unset, .unset, .unset, .unset] [(.long q0_1)])) _
      refine X0.ldc2Long hx hown (mvT hZ (hVV 0 _ rfl)) (g := (mkF m 32 #[.val (.long q0_0), .second, .val (.long q0_1), .second, .val (.int p0_2), .val (.long (if (p0_2 &&& (1 : Int32)) = (0 : Int32) then (q0_0 &&& (9223372036854775807 : Int64)) else (0 : Int64))), .second, .unset, .unset, .unset, .unset, .unset, .unset, .unset] [(.long q0_1)])) rfl (hb hby at_32) _ ?_
      show Steps p.tables e below (s₁.setTop (mkF m 35 #[.val (.long q0_0), .second, .val (.long q0_1), .second, .val (.int p0_2), .val (.long (if (p0_2 &&& (1 : Int32)) = (0 : Int32) then (q0_0 &&& (9223372036854775807 : Int64)) else (0 : Int64))), .second, .unset, .unset, .unset, .unset, .unset, .unset, .unset] [(.long (9223372036854775807 : Int64)), (.long q0_1)])) _
      refine XS.land X0.here hx rfl (hb hby at_35) rfl ?_
      have q9 : (if (p0_2 &&& (2 : Int32)) = (0 : Int32) then (q0_1 &&& (9223372036854775807 : Int64)) else (9223372036854775807 : Int64)) = (q0_1 &&& (9223372036854775807 : Int64)) := (if_pos hc6)
      exact castTop (g := (mkF m 36 #[.val (.long q0_0), .second, .val (.long q0_1), .second, .val (.int p0_2), .val (.long (if (p0_2 &&& (1 : Int32)) = (0 : Int32) then (q0_0 &&& (9223372036854775807 : Int64)) else (0 : Int64))), .second, .unset, .unset, .unset, .unset, .unset, .unset, .unset] [(.long (q0_1 &&& (9223372036854775807 : Int64)))])) (g' := (mkF m 36 #[.val (.long q0_0), .second, .val (.long q0_1), .second, .val (.int p0_2), .val (.long (if (p0_2 &&& (1 : Int32)) = (0 : Int32) then (q0_0 &&& (9223372036854775807 : Int64)) else (0 : Int64))), .second, .unset, .unset, .unset, .unset, .unset, .unset, .unset] [(.long (if (p0_2 &&& (2 : Int32)) = (0 : Int32) then (q0_1 &&& (9223372036854775807 : Int64)) else (9223372036854775807 : Int64)))])) (by simp only [q9]) k
    · show Steps p.tables e below (s₁.setTop (mkF m 22 #[.val (.long q0_0), .second, .val (.long q0_1), .second, .val (.int p0_2), .val (.long (if (p0_2 &&& (1 : Int32)) = (0 : Int32) then (q0_0 &&& (9223372036854775807 : Int64)) else (0 : Int64))), .second, .unset, .unset, .unset, .unset, .unset, .unset, .unset] [(.int (p0_2 &&& (2 : Int32)))])) _
      refine XS.ifNo X0.here hx rfl (hb hby at_22) rfl ((if0 _ _).trans (feq hc6).1) ?_
      show Steps p.tables e below (s₁.setTop (mkF m 25 #[.val (.long q0_0), .second, .val (.long q0_1), .second, .val (.int p0_2), .val (.long (if (p0_2 &&& (1 : Int32)) = (0 : Int32) then (q0_0 &&& (9223372036854775807 : Int64)) else (0 : Int64))), .second, .unset, .unset, .unset, .unset, .unset, .unset, .unset] [])) _
      refine X0.ldc2Long hx hown (mvT hZ (hVV 0 _ rfl)) (g := (mkF m 25 #[.val (.long q0_0), .second, .val (.long q0_1), .second, .val (.int p0_2), .val (.long (if (p0_2 &&& (1 : Int32)) = (0 : Int32) then (q0_0 &&& (9223372036854775807 : Int64)) else (0 : Int64))), .second, .unset, .unset, .unset, .unset, .unset, .unset, .unset] [])) rfl (hb hby at_25) _ ?_
      show Steps p.tables e below (s₁.setTop (mkF m 28 #[.val (.long q0_0), .second, .val (.long q0_1), .second, .val (.int p0_2), .val (.long (if (p0_2 &&& (1 : Int32)) = (0 : Int32) then (q0_0 &&& (9223372036854775807 : Int64)) else (0 : Int64))), .second, .unset, .unset, .unset, .unset, .unset, .unset, .unset] [(.long (9223372036854775807 : Int64))])) _
      refine XS.goto X0.here hx rfl (pc0 := 28) (pc' := 36) rfl (hb hby at_28) (by decide) (by decide) ?_
      have q10 : (if (p0_2 &&& (2 : Int32)) = (0 : Int32) then (q0_1 &&& (9223372036854775807 : Int64)) else (9223372036854775807 : Int64)) = (9223372036854775807 : Int64) := (if_neg hc6)
      exact castTop (g := (mkF m 36 #[.val (.long q0_0), .second, .val (.long q0_1), .second, .val (.int p0_2), .val (.long (if (p0_2 &&& (1 : Int32)) = (0 : Int32) then (q0_0 &&& (9223372036854775807 : Int64)) else (0 : Int64))), .second, .unset, .unset, .unset, .unset, .unset, .unset, .unset] [(.long (9223372036854775807 : Int64))])) (g' := (mkF m 36 #[.val (.long q0_0), .second, .val (.long q0_1), .second, .val (.int p0_2), .val (.long (if (p0_2 &&& (1 : Int32)) = (0 : Int32) then (q0_0 &&& (9223372036854775807 : Int64)) else (0 : Int64))), .second, .unset, .unset, .unset, .unset, .unset, .unset, .unset] [(.long (if (p0_2 &&& (2 : Int32)) = (0 : Int32) then (q0_1 &&& (9223372036854775807 : Int64)) else (9223372036854775807 : Int64)))])) (by simp only [q10]) k)
  have pre12 : ∀ t, Steps p.tables e below (s₁.setTop (mkF m 42 #[.val (.long q0_0), .second, .val (.long q0_1), .second, .val (.int p0_2), .val (.long (if (p0_2 &&& (1 : Int32)) = (0 : Int32) then (q0_0 &&& (9223372036854775807 : Int64)) else (0 : Int64))), .second, .val (.long (if (p0_2 &&& (2 : Int32)) = (0 : Int32) then (q0_1 &&& (9223372036854775807 : Int64)) else (9223372036854775807 : Int64))), .second, .unset, .unset, .unset, .unset, .unset] [(.int (p0_2 &&& (4 : Int32)))])) t → Steps p.tables e below (s₁.setTop (entryFrame m #[(.long q0_0), (.long q0_1), (.int p0_2)] maxLocals)) t := fun t k => pre8 t (by
    show Steps p.tables e below (s₁.setTop (mkF m 36 #[.val (.long q0_0), .second, .val (.long q0_1), .second, .val (.int p0_2), .val (.long (if (p0_2 &&& (1 : Int32)) = (0 : Int32) then (q0_0 &&& (9223372036854775807 : Int64)) else (0 : Int64))), .second, .unset, .unset, .unset, .unset, .unset, .unset, .unset] [(.long (if (p0_2 &&& (2 : Int32)) = (0 : Int32) then (q0_1 &&& (9223372036854775807 : Int64)) else (9223372036854775807 : Int64)))])) _
    refine XS.lstore X0.here hx rfl (hb hby at_36) rfl (l' := #[.val (.long q0_0), .second, .val (.long q0_1), .second, .val (.int p0_2), .val (.long (if (p0_2 &&& (1 : Int32)) = (0 : Int32) then (q0_0 &&& (9223372036854775807 : Int64)) else (0 : Int64))), .second, .val (.long (if (p0_2 &&& (2 : Int32)) = (0 : Int32) then (q0_1 &&& (9223372036854775807 : Int64)) else (9223372036854775807 : Int64))), .second, .unset, .unset, .unset, .unset, .unset]) rfl ?_
    show Steps p.tables e below (s₁.setTop (mkF m 38 #[.val (.long q0_0), .second, .val (.long q0_1), .second, .val (.int p0_2), .val (.long (if (p0_2 &&& (1 : Int32)) = (0 : Int32) then (q0_0 &&& (9223372036854775807 : Int64)) else (0 : Int64))), .second, .val (.long (if (p0_2 &&& (2 : Int32)) = (0 : Int32) then (q0_1 &&& (9223372036854775807 : Int64)) else (9223372036854775807 : Int64))), .second, .unset, .unset, .unset, .unset, .unset] [])) _
    refine XS.iload X0.here hx rfl (hb hby at_38) rfl ?_
    show Steps p.tables e below (s₁.setTop (mkF m 40 #[.val (.long q0_0), .second, .val (.long q0_1), .second, .val (.int p0_2), .val (.long (if (p0_2 &&& (1 : Int32)) = (0 : Int32) then (q0_0 &&& (9223372036854775807 : Int64)) else (0 : Int64))), .second, .val (.long (if (p0_2 &&& (2 : Int32)) = (0 : Int32) then (q0_1 &&& (9223372036854775807 : Int64)) else (9223372036854775807 : Int64))), .second, .unset, .unset, .unset, .unset, .unset] [(.int p0_2)])) _
    refine XS.iconst X0.here hx rfl (hb hby at_40) ?_
    show Steps p.tables e below (s₁.setTop (mkF m 41 #[.val (.long q0_0), .second, .val (.long q0_1), .second, .val (.int p0_2), .val (.long (if (p0_2 &&& (1 : Int32)) = (0 : Int32) then (q0_0 &&& (9223372036854775807 : Int64)) else (0 : Int64))), .second, .val (.long (if (p0_2 &&& (2 : Int32)) = (0 : Int32) then (q0_1 &&& (9223372036854775807 : Int64)) else (9223372036854775807 : Int64))), .second, .unset, .unset, .unset, .unset, .unset] [(.int (4 : Int32)), (.int p0_2)])) _
    refine XS.iand X0.here hx rfl (hb hby at_41) rfl ?_
    exact k)
  have pre13 : ∀ t, Steps p.tables e below (s₁.setTop (mkF m 50 #[.val (.long q0_0), .second, .val (.long q0_1), .second, .val (.int p0_2), .val (.long (if (p0_2 &&& (1 : Int32)) = (0 : Int32) then (q0_0 &&& (9223372036854775807 : Int64)) else (0 : Int64))), .second, .val (.long (if (p0_2 &&& (2 : Int32)) = (0 : Int32) then (q0_1 &&& (9223372036854775807 : Int64)) else (9223372036854775807 : Int64))), .second, .unset, .unset, .unset, .unset, .unset] [(.int (bI (¬ ((p0_2 &&& (4 : Int32)) = (0 : Int32)))))])) t → Steps p.tables e below (s₁.setTop (entryFrame m #[(.long q0_0), (.long q0_1), (.int p0_2)] maxLocals)) t := fun t k => pre12 t (by
    by_cases hc11 : (p0_2 &&& (4 : Int32)) = (0 : Int32)
    · show Steps p.tables e below (s₁.setTop (mkF m 42 #[.val (.long q0_0), .second, .val (.long q0_1), .second, .val (.int p0_2), .val (.long (if (p0_2 &&& (1 : Int32)) = (0 : Int32) then (q0_0 &&& (9223372036854775807 : Int64)) else (0 : Int64))), .second, .val (.long (if (p0_2 &&& (2 : Int32)) = (0 : Int32) then (q0_1 &&& (9223372036854775807 : Int64)) else (9223372036854775807 : Int64))), .second, .unset, .unset, .unset, .unset, .unset] [(.int (p0_2 &&& (4 : Int32)))])) _
      refine XS.ifYes X0.here hx rfl (pc0 := 42) (pc' := 49) rfl (hb hby at_42) rfl ((if0 _ _).trans (teq hc11).1) (by decide) (by decide) ?_
      show Steps p.tables e below (s₁.setTop (mkF m 49 #[.val (.long q0_0), .second, .val (.long q0_1), .second, .val (.int p0_2), .val (.long (if (p0_2 &&& (1 : Int32)) = (0 : Int32) then (q0_0 &&& (9223372036854775807 : Int64)) else (0 : Int64))), .second, .val (.long (if (p0_2 &&& (2 : Int32)) = (0 : Int32) then (q0_1 &&& (9223372036854775807 : Int64)) else (9223372036854775807 : Int64))), .second, .unset, .unset, .unset, .unset, .unset] [])) _
      refine XS.iconst X0.here hx rfl (hb hby at_49) ?_
      have q14 : (bI (¬ ((p0_2 &&& (4 : Int32)) = (0 : Int32)))) = (0 : Int32) := (bI_f (fun q => q hc11))
      exact castTop (g := (mkF m 50 #[.val (.long q0_0), .second, .val (.long q0_1), .second, .val (.int p0_2), .val (.long (if (p0_2 &&& (1 : Int32)) = (0 : Int32) then (q0_0 &&& (9223372036854775807 : Int64)) else (0 : Int64))), .second, .val (.long (if (p0_2 &&& (2 : Int32)) = (0 : Int32) then (q0_1 &&& (9223372036854775807 : Int64)) else (9223372036854775807 : Int64))), .second, .unset, .unset, .unset, .unset, .unset] [(.int (0 : Int32))])) (g' := (mkF m 50 #[.val (.long q0_0), .second, .val (.long q0_1), .second, .val (.int p0_2), .val (.long (if (p0_2 &&& (1 : Int32)) = (0 : Int32) then (q0_0 &&& (9223372036854775807 : Int64)) else (0 : Int64))), .second, .val (.long (if (p0_2 &&& (2 : Int32)) = (0 : Int32) then (q0_1 &&& (9223372036854775807 : Int64)) else (9223372036854775807 : Int64))), .second, .unset, .unset, .unset, .unset, .unset] [(.int (bI (¬ ((p0_2 &&& (4 : Int32)) = (0 : Int32)))))])) (by simp only [q14]) k
    · show Steps p.tables e below (s₁.setTop (mkF m 42 #[.val (.long q0_0), .second, .val (.long q0_1), .second, .val (.int p0_2), .val (.long (if (p0_2 &&& (1 : Int32)) = (0 : Int32) then (q0_0 &&& (9223372036854775807 : Int64)) else (0 : Int64))), .second, .val (.long (if (p0_2 &&& (2 : Int32)) = (0 : Int32) then (q0_1 &&& (9223372036854775807 : Int64)) else (9223372036854775807 : Int64))), .second, .unset, .unset, .unset, .unset, .unset] [(.int (p0_2 &&& (4 : Int32)))])) _
      refine XS.ifNo X0.here hx rfl (hb hby at_42) rfl ((if0 _ _).trans (feq hc11).1) ?_
      show Steps p.tables e below (s₁.setTop (mkF m 45 #[.val (.long q0_0), .second, .val (.long q0_1), .second, .val (.int p0_2), .val (.long (if (p0_2 &&& (1 : Int32)) = (0 : Int32) then (q0_0 &&& (9223372036854775807 : Int64)) else (0 : Int64))), .second, .val (.long (if (p0_2 &&& (2 : Int32)) = (0 : Int32) then (q0_1 &&& (9223372036854775807 : Int64)) else (9223372036854775807 : Int64))), .second, .unset, .unset, .unset, .unset, .unset] [])) _
      refine XS.iconst X0.here hx rfl (hb hby at_45) ?_
      show Steps p.tables e below (s₁.setTop (mkF m 46 #[.val (.long q0_0), .second, .val (.long q0_1), .second, .val (.int p0_2), .val (.long (if (p0_2 &&& (1 : Int32)) = (0 : Int32) then (q0_0 &&& (9223372036854775807 : Int64)) else (0 : Int64))), .second, .val (.long (if (p0_2 &&& (2 : Int32)) = (0 : Int32) then (q0_1 &&& (9223372036854775807 : Int64)) else (9223372036854775807 : Int64))), .second, .unset, .unset, .unset, .unset, .unset] [(.int (1 : Int32))])) _
      refine XS.goto X0.here hx rfl (pc0 := 46) (pc' := 50) rfl (hb hby at_46) (by decide) (by decide) ?_
      have q15 : (bI (¬ ((p0_2 &&& (4 : Int32)) = (0 : Int32)))) = (1 : Int32) := (bI_t hc11)
      exact castTop (g := (mkF m 50 #[.val (.long q0_0), .second, .val (.long q0_1), .second, .val (.int p0_2), .val (.long (if (p0_2 &&& (1 : Int32)) = (0 : Int32) then (q0_0 &&& (9223372036854775807 : Int64)) else (0 : Int64))), .second, .val (.long (if (p0_2 &&& (2 : Int32)) = (0 : Int32) then (q0_1 &&& (9223372036854775807 : Int64)) else (9223372036854775807 : Int64))), .second, .unset, .unset, .unset, .unset, .unset] [(.int (1 : Int32))])) (g' := (mkF m 50 #[.val (.long q0_0), .second, .val (.long q0_1), .second, .val (.int p0_2), .val (.long (if (p0_2 &&& (1 : Int32)) = (0 : Int32) then (q0_0 &&& (9223372036854775807 : Int64)) else (0 : Int64))), .second, .val (.long (if (p0_2 &&& (2 : Int32)) = (0 : Int32) then (q0_1 &&& (9223372036854775807 : Int64)) else (9223372036854775807 : Int64))), .second, .unset, .unset, .unset, .unset, .unset] [(.int (bI (¬ ((p0_2 &&& (4 : Int32)) = (0 : Int32)))))])) (by simp only [q15]) k)
  have pre16 : ∀ t, Steps p.tables e below (s₁.setTop (mkF m 52 #[.val (.long q0_0), .second, .val (.long q0_1), .second, .val (.int p0_2), .val (.long (if (p0_2 &&& (1 : Int32)) = (0 : Int32) then (q0_0 &&& (9223372036854775807 : Int64)) else (0 : Int64))), .second, .val (.long (if (p0_2 &&& (2 : Int32)) = (0 : Int32) then (q0_1 &&& (9223372036854775807 : Int64)) else (9223372036854775807 : Int64))), .second, .val (.int (bI (¬ ((p0_2 &&& (4 : Int32)) = (0 : Int32))))), .unset, .unset, .unset, .unset] [])) t → Steps p.tables e below (s₁.setTop (entryFrame m #[(.long q0_0), (.long q0_1), (.int p0_2)] maxLocals)) t := fun t k => pre13 t (by
    show Steps p.tables e below (s₁.setTop (mkF m 50 #[.val (.long q0_0), .second, .val (.long q0_1), .second, .val (.int p0_2), .val (.long (if (p0_2 &&& (1 : Int32)) = (0 : Int32) then (q0_0 &&& (9223372036854775807 : Int64)) else (0 : Int64))), .second, .val (.long (if (p0_2 &&& (2 : Int32)) = (0 : Int32) then (q0_1 &&& (9223372036854775807 : Int64)) else (9223372036854775807 : Int64))), .second, .unset, .unset, .unset, .unset, .unset] [(.int (bI (¬ ((p0_2 &&& (4 : Int32)) = (0 : Int32)))))])) _
    refine XS.istore X0.here hx rfl (hb hby at_50) rfl (l' := #[.val (.long q0_0), .second, .val (.long q0_1), .second, .val (.int p0_2), .val (.long (if (p0_2 &&& (1 : Int32)) = (0 : Int32) then (q0_0 &&& (9223372036854775807 : Int64)) else (0 : Int64))), .second, .val (.long (if (p0_2 &&& (2 : Int32)) = (0 : Int32) then (q0_1 &&& (9223372036854775807 : Int64)) else (9223372036854775807 : Int64))), .second, .val (.int (bI (¬ ((p0_2 &&& (4 : Int32)) = (0 : Int32))))), .unset, .unset, .unset, .unset]) rfl ?_
    exact k)
  obtain ⟨OFF, hOFF⟩ : ∃ z : Int64, z = (if (p0_2 &&& (1 : Int32)) = (0 : Int32) then (q0_0 &&& (9223372036854775807 : Int64)) else (0 : Int64)) := ⟨_, rfl⟩
  have pre17 : ∀ t, Steps p.tables e below (s₁.setTop (mkF m 52 #[.val (.long q0_0), .second, .val (.long q0_1), .second, .val (.int p0_2), .val (.long OFF), .second, .val (.long (if (p0_2 &&& (2 : Int32)) = (0 : Int32) then (q0_1 &&& (9223372036854775807 : Int64)) else (9223372036854775807 : Int64))), .second, .val (.int (bI (¬ ((p0_2 &&& (4 : Int32)) = (0 : Int32))))), .unset, .unset, .unset, .unset] [])) t → Steps p.tables e below (s₁.setTop (entryFrame m #[(.long q0_0), (.long q0_1), (.int p0_2)] maxLocals)) t := fun t k => pre16 t (castTop (by rw [hOFF]) k)
  have hOFF0 : 0 ≤ OFF.toInt := by
    rw [hOFF]
    split <;> first | exact own_mask _ | decide
  obtain ⟨LIM, hLIM⟩ : ∃ z : Int64, z = (if (p0_2 &&& (2 : Int32)) = (0 : Int32) then (q0_1 &&& (9223372036854775807 : Int64)) else (9223372036854775807 : Int64)) := ⟨_, rfl⟩
  have pre18 : ∀ t, Steps p.tables e below (s₁.setTop (mkF m 52 #[.val (.long q0_0), .second, .val (.long q0_1), .second, .val (.int p0_2), .val (.long OFF), .second, .val (.long LIM), .second, .val (.int (bI (¬ ((p0_2 &&& (4 : Int32)) = (0 : Int32))))), .unset, .unset, .unset, .unset] [])) t → Steps p.tables e below (s₁.setTop (entryFrame m #[(.long q0_0), (.long q0_1), (.int p0_2)] maxLocals)) t := fun t k => pre17 t (castTop (by rw [hLIM]) k)
  obtain ⟨T19, h19, X19, e19, E19, A19, D19, -, st19⟩ := newO X0 hx hZ hown (hVV 1 _ rfl) (hVV 2 _ rfl) (hVV 3 _ rfl) e0 (g := (mkF m 52 #[.val (.long q0_0), .second, .val (.long q0_1), .second, .val (.int p0_2), .val (.long OFF), .second, .val (.long LIM), .second, .val (.int (bI (¬ ((p0_2 &&& (4 : Int32)) = (0 : Int32))))), .unset, .unset, .unset, .unset] [])) rfl (hb hby at_52) (by decide) (by decide)
  obtain ⟨b19, g19⟩ : ∃ z, z = h0.size := ⟨_, rfl⟩
  rw [← g19] at A19 D19 st19
  have gz19 : n0 ≤ b19 := Nat.le_trans Z0 (Nat.le_of_eq g19.symm)
  have pre20 : ∀ t, Steps p.tables e below (T19.setTop (mkF m 55 #[.val (.long q0_0), .second, .val (.long q0_1), .second, .val (.int p0_2), .val (.long OFF), .second, .val (.long LIM), .second, .val (.int (bI (¬ ((p0_2 &&& (4 : Int32)) = (0 : Int32))))), .unset, .unset, .unset, .unset] [(.ref b19)])) t → Steps p.tables e below (s₁.setTop (entryFrame m #[(.long q0_0), (.long q0_1), (.int p0_2)] maxLocals)) t := fun t k => pre18 t (by
    show Steps p.tables e below (s₁.setTop (mkF m 52 #[.val (.long q0_0), .second, .val (.long q0_1), .second, .val (.int p0_2), .val (.long OFF), .second, .val (.long LIM), .second, .val (.int (bI (¬ ((p0_2 &&& (4 : Int32)) = (0 : Int32))))), .unset, .unset, .unset, .unset] [])) _
    refine st19 _ ?_
    exact k)
  have z21 := Nat.le_trans Z0 E19.1
  have o22 := O0.ext E19
  have f23 : Fld Z h19 b19 "com/example/tripleshard/tripleshard/sparql/Query" "projection" "Ljava/util/List;" .null := D19 (Or.inr (hVV 40 _ rfl)) (ty := (.object "java/util/List")) (by decide)
  have f24 : Fld Z h19 b19 "com/example/tripleshard/tripleshard/sparql/Query" "patterns" "Ljava/util/List;" .null := D19 (Or.inr (hVV 42 _ rfl)) (ty := (.object "java/util/List")) (by decide)
  have f25 : Fld Z h19 b19 "com/example/tripleshard/tripleshard/sparql/Query" "filters" "Ljava/util/List;" .null := D19 (Or.inr (hVV 44 _ rfl)) (ty := (.object "java/util/List")) (by decide)
  have f26 : Fld Z h19 b19 "com/example/tripleshard/tripleshard/sparql/Query" "distinct" "Z" (.int (0 : Int32)) := D19 (Or.inr (hVV 46 _ rfl)) (ty := .boolean) (by decide)
  have f27 : Fld Z h19 b19 "com/example/tripleshard/tripleshard/sparql/Query" "orderBy" "Ljava/util/List;" .null := D19 (Or.inr (hVV 48 _ rfl)) (ty := (.object "java/util/List")) (by decide)
  have f28 : Fld Z h19 b19 "com/example/tripleshard/tripleshard/sparql/Query" "offset" "J" (.long (0 : Int64)) := D19 (Or.inr (hVV 50 _ rfl)) (ty := .long) (by decide)
  have f29 : Fld Z h19 b19 "com/example/tripleshard/tripleshard/sparql/Query" "limit" "J" (.long (0 : Int64)) := D19 (Or.inr (hVV 52 _ rfl)) (ty := .long) (by decide)
  obtain ⟨T30, h30, X30, e30, E30, A30, D30, -, st30⟩ := newO X19 hx hZ hown (hVV 4 _ rfl) (hVV 5 _ rfl) (hVV 6 _ rfl) e19 (g := (mkF m 56 #[.val (.long q0_0), .second, .val (.long q0_1), .second, .val (.int p0_2), .val (.long OFF), .second, .val (.long LIM), .second, .val (.int (bI (¬ ((p0_2 &&& (4 : Int32)) = (0 : Int32))))), .unset, .unset, .unset, .unset] [(.ref b19), (.ref b19)])) rfl (hb hby at_56) (by decide) (by decide)
  obtain ⟨b30, g30⟩ : ∃ z, z = h19.size := ⟨_, rfl⟩
  rw [← g30] at A30 D30 st30
  have gz30 : n0 ≤ b30 := Nat.le_trans z21 (Nat.le_of_eq g30.symm)
  have ne31 : b19 ≠ b30 := Nat.ne_of_lt (Nat.lt_of_lt_of_le A19.lt (Nat.le_of_eq g30.symm))
  have pre32 : ∀ t, Steps p.tables e below (T30.setTop (mkF m 59 #[.val (.long q0_0), .second, .val (.long q0_1), .second, .val (.int p0_2), .val (.long OFF), .second, .val (.long LIM), .second, .val (.int (bI (¬ ((p0_2 &&& (4 : Int32)) = (0 : Int32))))), .unset, .unset, .unset, .unset] [(.ref b30), (.ref b19), (.ref b19)])) t → Steps p.tables e below (s₁.setTop (entryFrame m #[(.long q0_0), (.long q0_1), (.int p0_2)] maxLocals)) t := fun t k => pre20 t (by
    show Steps p.tables e below (T19.setTop (mkF m 55 #[.val (.long q0_0), .second, .val (.long q0_1), .second, .val (.int p0_2), .val (.long OFF), .second, .val (.long LIM), .second, .val (.int (bI (¬ ((p0_2 &&& (4 : Int32)) = (0 : Int32))))), .unset, .unset, .unset, .unset] [(.ref b19)])) _
    refine XS.dup X19.here hx rfl (hb hby at_55) rfl rfl ?_
    show Steps p.tables e below (T19.setTop (mkF m 56 #[.val (.long q0_0), .second, .val (.long q0_1), .second, .val (.int p0_2), .val (.long OFF), .second, .val (.long LIM), .second, .val (.int (bI (¬ ((p0_2 &&& (4 : Int32)) = (0 : Int32))))), .unset, .unset, .unset, .unset] [(.ref b19), (.ref b19)])) _
    refine st30 _ ?_
    exact k)
  have f33 := A19.ext E30
  have f34 := f23.ext E30
  have f35 := f24.ext E30
  have f36 := f25.ext E30
  have f37 := f26.ext E30
  have f38 := f27.ext E30
  have f39 := f28.ext E30
  have f40 := f29.ext E30
  have z41 := Nat.le_trans z21 E30.1
  have o42 := o22.ext E30
  have f43 : Fld Z h30 b30 "java/util/AbstractList" "modCount" "I" (.int (0 : Int32)) := D30 (Or.inl (hVV 26 _ rfl)) (ty := .int) (by decide)
  have f44 : Fld Z h30 b30 "java/util/ArrayList" "elementData" "[Ljava/lang/Object;" .null := D30 (Or.inl (hVV 29 _ rfl)) (ty := (.array (.object "java/lang/Object"))) (by decide)
  obtain ⟨_, _, ⟨T45, L45, k45, n45⟩, -, X45, ⟨Lc45, hQ45, l45, y45, z45⟩, st45⟩ := X30.specialBack hx (y := (⟨"java/util/ArrayList", "<init>", "()V"⟩ : MethodName)) rfl hown (mvT hZ (hVV 7 _ rfl)) (mvT hZ (hVV 8 _ rfl)) (mvT hZ (hVV 9 _ rfl)) (by decide) (backOf (W := 3) (rm1 l Z a0 hw [] b30 (0 : Int32) .null w0_DEFAULTCAPACITY_EMPTY_ELEMENTDATA h30 n0 z41 o42 A30 f43 f44 gz30 S_DEFAULTCAPACITY_EMPTY_ELEMENTDATA) hZ (hVV 9 _ rfl) (hVV 6 _ rfl) (by decide) (by decide)) (g := (mkF m 60 #[.val (.long q0_0), .second, .val (.long q0_1), .second, .val (.int p0_2), .val (.long OFF), .second, .val (.long LIM), .second, .val (.int (bI (¬ ((p0_2 &&& (4 : Int32)) = (0 : Int32))))), .unset, .unset, .unset, .unset] [(.ref b30), (.ref b30), (.ref b19), (.ref b19)])) rfl (by rw [hml]; rfl) (Steps.refl _) (a := b30) (argsL := []) (rest := [(.ref b30), (.ref b19), (.ref b19)]) (lenOf pd_0 rfl) rfl (by show 2 * 0 + _ ≤ _; exact Nat.le_of_eq rfl) (hb hby at_60) (fun _ _ => ⟨rfl, e30, (by decide : 2 + 0 ≤ _), (by decide : 10 + 0 ≤ _)⟩)
  dsimp only [Pt.U, Pt.locs, Pt.cells, Pt.slots] at X45 l45 y45 z45 st45 hQ45
  subst l45 y45 z45
  obtain ⟨rfl, N45q, K45, r45_0, r45_1, r45_2⟩ := hQ45
  have N46 := Fr.app N0 N45q
  have pre47 : ∀ t, Steps p.tables e below (T45.setTop (mkF m 63 #[.val (.long q0_0), .second, .val (.long q0_1), .second, .val (.int p0_2), .val (.long OFF), .second, .val (.long LIM), .second, .val (.int (bI (¬ ((p0_2 &&& (4 : Int32)) = (0 : Int32))))), .unset, .unset, .unset, .unset] [(.ref b30), (.ref b19), (.ref b19)])) t → Steps p.tables e below (s₁.setTop (entryFrame m #[(.long q0_0), (.long q0_1), (.int p0_2)] maxLocals)) t := fun t k => pre32 t (by
    show Steps p.tables e below (T30.setTop (mkF m 59 #[.val (.long q0_0), .second, .val (.long q0_1), .second, .val (.int p0_2), .val (.long OFF), .second, .val (.long LIM), .second, .val (.int (bI (¬ ((p0_2 &&& (4 : Int32)) = (0 : Int32))))), .unset, .unset, .unset, .unset] [(.ref b30), (.ref b19), (.ref b19)])) _
    refine XS.dup X30.here hx rfl (hb hby at_59) rfl rfl ?_
    show Steps p.tables e below (T30.setTop (mkF m 60 #[.val (.long q0_0), .second, .val (.long q0_1), .second, .val (.int p0_2), .val (.long OFF), .second, .val (.long LIM), .second, .val (.int (bI (¬ ((p0_2 &&& (4 : Int32)) = (0 : Int32))))), .unset, .unset, .unset, .unset] [(.ref b30), (.ref b30), (.ref b19), (.ref b19)])) _
    refine st45.trans ?_
    exact k)
  have f48 := f33.keep K45
  have f49 := f34.keep K45 (ninS ne31 nin0)
  have f50 := f35.keep K45 (ninS ne31 nin0)
  have f51 := f36.keep K45 (ninS ne31 nin0)
  have f52 := f37.keep K45 (ninS ne31 nin0)
  have f53 := f38.keep K45 (ninS ne31 nin0)
  have f54 := f39.keep K45 (ninS ne31 nin0)
  have f55 := f40.keep K45 (ninS ne31 nin0)
  have f56 := A30.keep K45
  have z57 := Nat.le_trans z41 K45.1
  have o58 := o42.keep K45 (allS gz30 all0)
  obtain ⟨T59, h59, X59, e59, E59, A59, D59, -, st59⟩ := newO X45 hx hZ hown (hVV 4 _ rfl) (hVV 5 _ rfl) (hVV 6 _ rfl) rfl (g := (mkF m 63 #[.val (.long q0_0), .second, .val (.long q0_1), .second, .val (.int p0_2), .val (.long OFF), .second, .val (.long LIM), .second, .val (.int (bI (¬ ((p0_2 &&& (4 : Int32)) = (0 : Int32))))), .unset, .unset, .unset, .unset] [(.ref b30), (.ref b19), (.ref b19)])) rfl (hb hby at_63) (by decide) (by decide)
  obtain ⟨b59, g59⟩ : ∃ z, z = T45.heap.size := ⟨_, rfl⟩
  rw [← g59] at A59 D59 st59
  have gz59 : n0 ≤ b59 := Nat.le_trans z57 (Nat.le_of_eq g59.symm)
  have ne60 : b19 ≠ b59 := Nat.ne_of_lt (Nat.lt_of_lt_of_le f48.lt (Nat.le_of_eq g59.symm))
  have ne61 : b30 ≠ b59 := Nat.ne_of_lt (Nat.lt_of_lt_of_le r45_0.lt (Nat.le_of_eq g59.symm))
  have pre62 : ∀ t, Steps p.tables e below (T59.setTop (mkF m 66 #[.val (.long q0_0), .second, .val (.long q0_1), .second, .val (.int p0_2), .val (.long OFF), .second, .val (.long LIM), .second, .val (.int (bI (¬ ((p0_2 &&& (4 : Int32)) = (0 : Int32))))), .unset, .unset, .unset, .unset] [(.ref b59), (.ref b30), (.ref b19), (.ref b19)])) t → Steps p.tables e below (s₁.setTop (entryFrame m #[(.long q0_0), (.long q0_1), (.int p0_2)] maxLocals)) t := fun t k => pre47 t (by
    show Steps p.tables e below (T45.setTop (mkF m 63 #[.val (.long q0_0), .second, .val (.long q0_1), .second, .val (.int p0_2), .val (.long OFF), .second, .val (.long LIM), .second, .val (.int (bI (¬ ((p0_2 &&& (4 : Int32)) = (0 : Int32))))), .unset, .unset, .unset, .unset] [(.ref b30), (.ref b19), (.ref b19)])) _
    refine st59 _ ?_
    exact k)
  have f63 := f48.ext E59
  have f64 := f49.ext E59
  have f65 := f50.ext E59
  have f66 := f51.ext E59
  have f67 := f52.ext E59
  have f68 := f53.ext E59
  have f69 := f54.ext E59
  have f70 := f55.ext E59
  have f71 := r45_0.ext E59
  have f72 := r45_1.ext E59
  have f73 := r45_2.ext E59
  have z74 := Nat.le_trans z57 E59.1
  have o75 := o58.ext E59
  have f76 : Fld Z h59 b59 "java/util/AbstractList" "modCount" "I" (.int (0 : Int32)) := D59 (Or.inl (hVV 26 _ rfl)) (ty := .int) (by decide)
  have f77 : Fld Z h59 b59 "java/util/ArrayList" "elementData" "[Ljava/lang/Object;" .null := D59 (Or.inl (hVV 29 _ rfl)) (ty := (.array (.object "java/lang/Object"))) (by decide)
  obtain ⟨_, _, ⟨T78, L78, k78, n78⟩, -, X78, ⟨Lc78, hQ78, l78, y78, z78⟩, st78⟩ := X59.specialBack hx (y := (⟨"java/util/ArrayList", "<init>", "()V"⟩ : MethodName)) rfl hown (mvT hZ (hVV 7 _ rfl)) (mvT hZ (hVV 8 _ rfl)) (mvT hZ (hVV 9 _ rfl)) (by decide) (backOf (W := 4) (rm1 l Z a0 hw [] b59 (0 : Int32) .null w0_DEFAULTCAPACITY_EMPTY_ELEMENTDATA h59 n0 z74 o75 A59 f76 f77 gz59 S_DEFAULTCAPACITY_EMPTY_ELEMENTDATA) hZ (hVV 9 _ rfl) (hVV 6 _ rfl) (by decide) (by decide)) (g := (mkF m 67 #[.val (.long q0_0), .second, .val (.long q0_1), .second, .val (.int p0_2), .val (.long OFF), .second, .val (.long LIM), .second, .val (.int (bI (¬ ((p0_2 &&& (4 : Int32)) = (0 : Int32))))), .unset, .unset, .unset, .unset] [(.ref b59), (.ref b59), (.ref b30), (.ref b19), (.ref b19)])) rfl (by rw [hml]; rfl) (Steps.refl _) (a := b59) (argsL := []) (rest := [(.ref b59), (.ref b30), (.ref b19), (.ref b19)]) (lenOf pd_0 rfl) rfl (by show 2 * 0 + _ ≤ _; exact Nat.le_of_eq rfl) (hb hby at_67) (fun _ _ => ⟨rfl, e59, (by decide : 3 + 0 ≤ _), (by decide : 13 + 0 ≤ _)⟩)
  dsimp only [Pt.U, Pt.locs, Pt.cells, Pt.slots] at X78 l78 y78 z78 st78 hQ78
  subst l78 y78 z78
  obtain ⟨rfl, N78q, K78, r78_0, r78_1, r78_2⟩ := hQ78
  have N79 := Fr.app N46 N78q
  have pre80 : ∀ t, Steps p.tables e below (T78.setTop (mkF m 70 #[.val (.long q0_0), .second, .val (.long q0_1), .second, .val (.int p0_2), .val (.long OFF), .second, .val (.long LIM), .second, .val (.int (bI (¬ ((p0_2 &&& (4 : Int32)) = (0 : Int32))))), .unset, .unset, .unset, .unset] [(.ref b59), (.ref b30), (.ref b19), (.ref b19)])) t → Steps p.tables e below (s₁.setTop (entryFrame m #[(.long q0_0), (.long q0_1), (.int p0_2)] maxLocals)) t := fun t k => pre62 t (by
    show Steps p.tables e below (T59.setTop (mkF m 66 #[.val (.long q0_0), .second, .val (.long q0_1), .second, .val (.int p0_2), .val (.long OFF), .second, .val (.long LIM), .second, .val (.int (bI (¬ ((p0_2 &&& (4 : Int32)) = (0 : Int32))))), .unset, .unset, .unset, .unset] [(.ref b59), (.ref b30), (.ref b19), (.ref b19)])) _
    refine XS.dup X59.here hx rfl (hb hby at_66) rfl rfl ?_
    show Steps p.tables e below (T59.setTop (mkF m 67 #[.val (.long q0_0), .second, .val (.long q0_1), .second, .val (.int p0_2), .val (.long OFF), .second, .val (.long LIM), .second, .val (.int (bI (¬ ((p0_2 &&& (4 : Int32)) = (0 : Int32))))), .unset, .unset, .unset, .unset] [(.ref b59), (.ref b59), (.ref b30), (.ref b19), (.ref b19)])) _
    refine st78.trans ?_
    exact k)
  have f81 := f63.keep K78
  have f82 := f64.keep K78 (ninS ne60 nin0)
  have f83 := f65.keep K78 (ninS ne60 nin0)
  have f84 := f66.keep K78 (ninS ne60 nin0)
  have f85 := f67.keep K78 (ninS ne60 nin0)
  have f86 := f68.keep K78 (ninS ne60 nin0)
  have f87 := f69.keep K78 (ninS ne60 nin0)
  have f88 := f70.keep K78 (ninS ne60 nin0)
  have f89 := f71.keep K78
  have f90 := f72.keep K78 (ninS ne61 nin0)
  have f91 := f73.keep K78 (ninS ne61 nin0)
  have f92 := A59.keep K78
  have z93 := Nat.le_trans z74 K78.1
  have o94 := o75.keep K78 (allS gz59 all0)
  obtain ⟨T95, h95, X95, e95, E95, A95, D95, -, st95⟩ := newO X78 hx hZ hown (hVV 4 _ rfl) (hVV 5 _ rfl) (hVV 6 _ rfl) rfl (g := (mkF m 70 #[.val (.long q0_0), .second, .val (.long q0_1), .second, .val (.int p0_2), .val (.long OFF), .second, .val (.long LIM), .second, .val (.int (bI (¬ ((p0_2 &&& (4 : Int32)) = (0 : Int32))))), .unset, .unset, .unset, .unset] [(.ref b59), (.ref b30), (.ref b19), (.ref b19)])) rfl (hb hby at_70) (by decide) (by decide)
  obtain ⟨b95, g95⟩ : ∃ z, z = T78.heap.size := ⟨_, rfl⟩
  rw [← g95] at A95 D95 st95
  have gz95 : n0 ≤ b95 := Nat.le_trans z93 (Nat.le_of_eq g95.symm)
  have ne96 : b19 ≠ b95 := Nat.ne_of_lt (Nat.lt_of_lt_of_le f81.lt (Nat.le_of_eq g95.symm))
  have ne97 : b30 ≠ b95 := Nat.ne_of_lt (Nat.lt_of_lt_of_le f89.lt (Nat.le_of_eq g95.symm))
  have ne98 : b59 ≠ b95 := Nat.ne_of_lt (Nat.lt_of_lt_of_le r78_0.lt (Nat.le_of_eq g95.symm))
  have pre99 : ∀ t, Steps p.tables e below (T95.setTop (mkF m 73 #[.val (.long q0_0), .second, .val (.long q0_1), .second, .val (.int p0_2), .val (.long OFF), .second, .val (.long LIM), .second, .val (.int (bI (¬ ((p0_2 &&& (4 : Int32)) = (0 : Int32))))), .unset, .unset, .unset, .unset] [(.ref b95), (.ref b59), (.ref b30), (.ref b19), (.ref b19)])) t → Steps p.tables e below (s₁.setTop (entryFrame m #[(.long q0_0), (.long q0_1), (.int p0_2)] maxLocals)) t := fun t k => pre80 t (by
    show Steps p.tables e below (T78.setTop (mkF m 70 #[.val (.long q0_0), .second, .val (.long q0_1), .second, .val (.int p0_2), .val (.long OFF), .second, .val (.long LIM), .second, .val (.int (bI (¬ ((p0_2 &&& (4 : Int32)) = (0 : Int32))))), .unset, .unset, .unset, .unset] [(.ref b59), (.ref b30), (.ref b19), (.ref b19)])) _
    refine st95 _ ?_
    exact k)
  have f100 := f81.ext E95
  have f101 := f82.ext E95
  have f102 := f83.ext E95
  have f103 := f84.ext E95
  have f104 := f85.ext E95
  have f105 := f86.ext E95
  have f106 := f87.ext E95
  have f107 := f88.ext E95
  have f108 := f89.ext E95
  have f109 := f90.ext E95
  have f110 := f91.ext E95
  have f111 := r78_0.ext E95
  have f112 := r78_1.ext E95
  have f113 := r78_2.ext E95
  have z114 := Nat.le_trans z93 E95.1
  have o115 := o94.ext E95
  have f116 : Fld Z h95 b95 "java/util/AbstractList" "modCount" "I" (.int (0 : Int32)) := D95 (Or.inl (hVV 26 _ rfl)) (ty := .int) (by decide)
  have f117 : Fld Z h95 b95 "java/util/ArrayList" "elementData" "[Ljava/lang/Object;" .null := D95 (Or.inl (hVV 29 _ rfl)) (ty := (.array (.object "java/lang/Object"))) (by decide)
  obtain ⟨_, _, ⟨T118, L118, k118, n118⟩, -, X118, ⟨Lc118, hQ118, l118, y118, z118⟩, st118⟩ := X95.specialBack hx (y := (⟨"java/util/ArrayList", "<init>", "()V"⟩ : MethodName)) rfl hown (mvT hZ (hVV 7 _ rfl)) (mvT hZ (hVV 8 _ rfl)) (mvT hZ (hVV 9 _ rfl)) (by decide) (backOf (W := 5) (rm1 l Z a0 hw [] b95 (0 : Int32) .null w0_DEFAULTCAPACITY_EMPTY_ELEMENTDATA h95 n0 z114 o115 A95 f116 f117 gz95 S_DEFAULTCAPACITY_EMPTY_ELEMENTDATA) hZ (hVV 9 _ rfl) (hVV 6 _ rfl) (by decide) (by decide)) (g := (mkF m 74 #[.val (.long q0_0), .second, .val (.long q0_1), .second, .val (.int p0_2), .val (.long OFF), .second, .val (.long LIM), .second, .val (.int (bI (¬ ((p0_2 &&& (4 : Int32)) = (0 : Int32))))), .unset, .unset, .unset, .unset] [(.ref b95), (.ref b95), (.ref b59), (.ref b30), (.ref b19), (.ref b19)])) rfl (by rw [hml]; rfl) (Steps.refl _) (a := b95) (argsL := []) (rest := [(.ref b95), (.ref b59), (.ref b30), (.ref b19), (.ref b19)]) (lenOf pd_0 rfl) rfl (by show 2 * 0 + _ ≤ _; exact Nat.le_of_eq rfl) (hb hby at_74) (fun _ _ => ⟨rfl, e95, (by decide : 4 + 0 ≤ _), (by decide : 16 + 0 ≤ _)⟩)
  dsimp only [Pt.U, Pt.locs, Pt.cells, Pt.slots] at X118 l118 y118 z118 st118 hQ118
  subst l118 y118 z118
  obtain ⟨rfl, N118q, K118, r118_0, r118_1, r118_2⟩ := hQ118
  have N119 := Fr.app N79 N118q
  have pre120 : ∀ t, Steps p.tables e below (T118.setTop (mkF m 77 #[.val (.long q0_0), .second, .val (.long q0_1), .second, .val (.int p0_2), .val (.long OFF), .second, .val (.long LIM), .second, .val (.int (bI (¬ ((p0_2 &&& (4 : Int32)) = (0 : Int32))))), .unset, .unset, .unset, .unset] [(.ref b95), (.ref b59), (.ref b30), (.ref b19), (.ref b19)])) t → Steps p.tables e below (s₁.setTop (entryFrame m #[(.long q0_0), (.long q0_1), (.int p0_2)] maxLocals)) t := fun t k => pre99 t (by
    show Steps p.tables e below (T95.setTop (mkF m 73 #[.val (.long q0_0), .second, .val (.long q0_1), .second, .val (.int p0_2), .val (.long OFF), .second, .val (.long LIM), .second, .val (.int (bI (¬ ((p0_2 &&& (4 : Int32)) = (0 : Int32))))), .unset, .unset, .unset, .unset] [(.ref b95), (.ref b59), (.ref b30), (.ref b19), (.ref b19)])) _
    refine XS.dup X95.here hx rfl (hb hby at_73) rfl rfl ?_
    show Steps p.tables e below (T95.setTop (mkF m 74 #[.val (.long q0_0), .second, .val (.long q0_1), .second, .val (.int p0_2), .val (.long OFF), .second, .val (.long LIM), .second, .val (.int (bI (¬ ((p0_2 &&& (4 : Int32)) = (0 : Int32))))), .unset, .unset, .unset, .unset] [(.ref b95), (.ref b95), (.ref b59), (.ref b30), (.ref b19), (.ref b19)])) _
    refine st118.trans ?_
    exact k)
  have f121 := f100.keep K118
  have f122 := f101.keep K118 (ninS ne96 nin0)
  have f123 := f102.keep K118 (ninS ne96 nin0)
  have f124 := f103.keep K118 (ninS ne96 nin0)
  have f125 := f104.keep K118 (ninS ne96 nin0)
  have f126 := f105.keep K118 (ninS ne96 nin0)
  have f127 := f106.keep K118 (ninS ne96 nin0)
  have f128 := f107.keep K118 (ninS ne96 nin0)
  have f129 := f108.keep K118
  have f130 := f109.keep K118 (ninS ne97 nin0)
  have f131 := f110.keep K118 (ninS ne97 nin0)
  have f132 := f111.keep K118
  have f133 := f112.keep K118 (ninS ne98 nin0)
  have f134 := f113.keep K118 (ninS ne98 nin0)
  have f135 := A95.keep K118
  have z136 := Nat.le_trans z114 K118.1
  have o137 := o115.keep K118 (allS gz95 all0)
  obtain ⟨T138, h138, X138, e138, E138, A138, D138, -, st138⟩ := newO X118 hx hZ hown (hVV 4 _ rfl) (hVV 5 _ rfl) (hVV 6 _ rfl) rfl (g := (mkF m 79 #[.val (.long q0_0), .second, .val (.long q0_1), .second, .val (.int p0_2), .val (.long OFF), .second, .val (.long LIM), .second, .val (.int (bI (¬ ((p0_2 &&& (4 : Int32)) = (0 : Int32))))), .unset, .unset, .unset, .unset] [(.int (bI (¬ ((p0_2 &&& (4 : Int32)) = (0 : Int32))))), (.ref b95), (.ref b59), (.ref b30), (.ref b19), (.ref b19)])) rfl (hb hby at_79) (by decide) (by decide)
  obtain ⟨b138, g138⟩ : ∃ z, z = T118.heap.size := ⟨_, rfl⟩
  rw [← g138] at A138 D138 st138
  have gz138 : n0 ≤ b138 := Nat.le_trans z136 (Nat.le_of_eq g138.symm)
  have ne139 : b19 ≠ b138 := Nat.ne_of_lt (Nat.lt_of_lt_of_le f121.lt (Nat.le_of_eq g138.symm))
  have ne140 : b30 ≠ b138 := Nat.ne_of_lt (Nat.lt_of_lt_of_le f129.lt (Nat.le_of_eq g138.symm))
  have ne141 : b59 ≠ b138 := Nat.ne_of_lt (Nat.lt_of_lt_of_le f132.lt (Nat.le_of_eq g138.symm))
  have ne142 : b95 ≠ b138 := Nat.ne_of_lt (Nat.lt_of_lt_of_le r118_0.lt (Nat.le_of_eq g138.symm))
  have pre143 : ∀ t, Steps p.tables e below (T138.setTop (mkF m 82 #[.val (.long q0_0), .second, .val (.long q0_1), .second, .val (.int p0_2), .val (.long OFF), .second, .val (.long LIM), .second, .val (.int (bI (¬ ((p0_2 &&& (4 : Int32)) = (0 : Int32))))), .unset, .unset, .unset, .unset] [(.ref b138), (.int (bI (¬ ((p0_2 &&& (4 : Int32)) = (0 : Int32))))), (.ref b95), (.ref b59), (.ref b30), (.ref b19), (.ref b19)])) t → Steps p.tables e below (s₁.setTop (entryFrame m #[(.long q0_0), (.long q0_1), (.int p0_2)] maxLocals)) t := fun t k => pre120 t (by
    show Steps p.tables e below (T118.setTop (mkF m 77 #[.val (.long q0_0), .second, .val (.long q0_1), .second, .val (.int p0_2), .val (.long OFF), .second, .val (.long LIM), .second, .val (.int (bI (¬ ((p0_2 &&& (4 : Int32)) = (0 : Int32))))), .unset, .unset, .unset, .unset] [(.ref b95), (.ref b59), (.ref b30), (.ref b19), (.ref b19)])) _
    refine XS.iload X118.here hx rfl (hb hby at_77) rfl ?_
    show Steps p.tables e below (T118.setTop (mkF m 79 #[.val (.long q0_0), .second, .val (.long q0_1), .second, .val (.int p0_2), .val (.long OFF), .second, .val (.long LIM), .second, .val (.int (bI (¬ ((p0_2 &&& (4 : Int32)) = (0 : Int32))))), .unset, .unset, .unset, .unset] [(.int (bI (¬ ((p0_2 &&& (4 : Int32)) = (0 : Int32))))), (.ref b95), (.ref b59), (.ref b30), (.ref b19), (.ref b19)])) _
    refine st138 _ ?_
    exact k)
  have f144 := f121.ext E138
  have f145 := f122.ext E138
  have f146 := f123.ext E138
  have f147 := f124.ext E138
  have f148 := f125.ext E138
  have f149 := f126.ext E138
  have f150 := f127.ext E138
  have f151 := f128.ext E138
  have f152 := f129.ext E138
  have f153 := f130.ext E138
  have f154 := f131.ext E138
  have f155 := f132.ext E138
  have f156 := f133.ext E138
  have f157 := f134.ext E138
  have f158 := r118_0.ext E138
  have f159 := r118_1.ext E138
  have f160 := r118_2.ext E138
  have z161 := Nat.le_trans z136 E138.1
  have o162 := o137.ext E138
  have f163 : Fld Z h138 b138 "java/util/AbstractList" "modCount" "I" (.int (0 : Int32)) := D138 (Or.inl (hVV 26 _ rfl)) (ty := .int) (by decide)
  have f164 : Fld Z h138 b138 "java/util/ArrayList" "elementData" "[Ljava/lang/Object;" .null := D138 (Or.inl (hVV 29 _ rfl)) (ty := (.array (.object "java/lang/Object"))) (by decide)
  obtain ⟨_, _, ⟨T165, L165, k165, n165⟩, -, X165, ⟨Lc165, hQ165, l165, y165, z165⟩, st165⟩ := X138.specialBack hx (y := (⟨"java/util/ArrayList", "<init>", "()V"⟩ : MethodName)) rfl hown (mvT hZ (hVV 7 _ rfl)) (mvT hZ (hVV 8 _ rfl)) (mvT hZ (hVV 9 _ rfl)) (by decide) (backOf (W := 7) (rm1 l Z a0 hw [] b138 (0 : Int32) .null w0_DEFAULTCAPACITY_EMPTY_ELEMENTDATA h138 n0 z161 o162 A138 f163 f164 gz138 S_DEFAULTCAPACITY_EMPTY_ELEMENTDATA) hZ (hVV 9 _ rfl) (hVV 6 _ rfl) (by decide) (by decide)) (g := (mkF m 83 #[.val (.long q0_0), .second, .val (.long q0_1), .second, .val (.int p0_2), .val (.long OFF), .second, .val (.long LIM), .second, .val (.int (bI (¬ ((p0_2 &&& (4 : Int32)) = (0 : Int32))))), .unset, .unset, .unset, .unset] [(.ref b138), (.ref b138), (.int (bI (¬ ((p0_2 &&& (4 : Int32)) = (0 : Int32))))), (.ref b95), (.ref b59), (.ref b30), (.ref b19), (.ref b19)])) rfl (by rw [hml]; rfl) (Steps.refl _) (a := b138) (argsL := []) (rest := [(.ref b138), (.int (bI (¬ ((p0_2 &&& (4 : Int32)) = (0 : Int32))))), (.ref b95), (.ref b59), (.ref b30), (.ref b19), (.ref b19)]) (lenOf pd_0 rfl) rfl (by show 2 * 0 + _ ≤ _; exact Nat.le_of_eq rfl) (hb hby at_83) (fun _ _ => ⟨rfl, e138, (by decide : 5 + 0 ≤ _), (by decide : 19 + 0 ≤ _)⟩)
  dsimp only [Pt.U, Pt.locs, Pt.cells, Pt.slots] at X165 l165 y165 z165 st165 hQ165
  subst l165 y165 z165
  obtain ⟨rfl, N165q, K165, r165_0, r165_1, r165_2⟩ := hQ165
  have N166 := Fr.app N119 N165q
  have pre167 : ∀ t, Steps p.tables e below (T165.setTop (mkF m 86 #[.val (.long q0_0), .second, .val (.long q0_1), .second, .val (.int p0_2), .val (.long OFF), .second, .val (.long LIM), .second, .val (.int (bI (¬ ((p0_2 &&& (4 : Int32)) = (0 : Int32))))), .unset, .unset, .unset, .unset] [(.ref b138), (.int (bI (¬ ((p0_2 &&& (4 : Int32)) = (0 : Int32))))), (.ref b95), (.ref b59), (.ref b30), (.ref b19), (.ref b19)])) t → Steps p.tables e below (s₁.setTop (entryFrame m #[(.long q0_0), (.long q0_1), (.int p0_2)] maxLocals)) t := fun t k => pre143 t (by
    show Steps p.tables e below (T138.setTop (mkF m 82 #[.val (.long q0_0), .second, .val (.long q0_1), .second, .val (.int p0_2), .val (.long OFF), .second, .val (.long LIM), .second, .val (.int (bI (¬ ((p0_2 &&& (4 : Int32)) = (0 : Int32))))), .unset, .unset, .unset, .unset] [(.ref b138), (.int (bI (¬ ((p0_2 &&& (4 : Int32)) = (0 : Int32))))), (.ref b95), (.ref b59), (.ref b30), (.ref b19), (.ref b19)])) _
    refine XS.dup X138.here hx rfl (hb hby at_82) rfl rfl ?_
    show Steps p.tables e below (T138.setTop (mkF m 83 #[.val (.long q0_0), .second, .val (.long q0_1), .second, .val (.int p0_2), .val (.long OFF), .second, .val (.long LIM), .second, .val (.int (bI (¬ ((p0_2 &&& (4 : Int32)) = (0 : Int32))))), .unset, .unset, .unset, .unset] [(.ref b138), (.ref b138), (.int (bI (¬ ((p0_2 &&& (4 : Int32)) = (0 : Int32))))), (.ref b95), (.ref b59), (.ref b30), (.ref b19), (.ref b19)])) _
    refine st165.trans ?_
    exact k)
  have f168 := f144.keep K165
  have f169 := f145.keep K165 (ninS ne139 nin0)
  have f170 := f146.keep K165 (ninS ne139 nin0)
  have f171 := f147.keep K165 (ninS ne139 nin0)
  have f172 := f148.keep K165 (ninS ne139 nin0)
  have f173 := f149.keep K165 (ninS ne139 nin0)
  have f174 := f150.keep K165 (ninS ne139 nin0)
  have f175 := f151.keep K165 (ninS ne139 nin0)
  have f176 := f152.keep K165
  have f177 := f153.keep K165 (ninS ne140 nin0)
  have f178 := f154.keep K165 (ninS ne140 nin0)
  have f179 := f155.keep K165
  have f180 := f156.keep K165 (ninS ne141 nin0)
  have f181 := f157.keep K165 (ninS ne141 nin0)
  have f182 := f158.keep K165
  have f183 := f159.keep K165 (ninS ne142 nin0)
  have f184 := f160.keep K165 (ninS ne142 nin0)
  have f185 := A138.keep K165
  have z186 := Nat.le_trans z161 K165.1
  have o187 := o162.keep K165 (allS gz138 all0)
  obtain ⟨_, _, ⟨T188, L188, k188, n188⟩, -, X188, ⟨Lc188, hQ188, l188, y188, z188⟩, st188⟩ := X165.specialBack hx (y := (⟨"com/example/tripleshard/tripleshard/sparql/Query", "<init>", "(Ljava/util/List;Ljava/util/List;Ljava/util/List;ZLjava/util/List;JJ)V"⟩ : MethodName)) rfl hown (mvT hZ (hVV 30 _ rfl)) (mvT hZ (hVV 31 _ rfl)) (mvT hZ (hVV 32 _ rfl)) (by decide) (backOf (W := 1) (rm5 l Z a0 hw [] b19 b30 b59 b95 (bI (¬ ((p0_2 &&& (4 : Int32)) = (0 : Int32)))) b138 OFF LIM .null .null .null (0 : Int32) .null (0 : Int64) (0 : Int64) T165.heap n0 z186 f168 f169 f170 f171 f172 f173 f174 f175 gz19) hZ (hVV 32 _ rfl) (hVV 3 _ rfl) (by decide) (by decide)) (g := (mkF m 90 #[.val (.long q0_0), .second, .val (.long q0_1), .second, .val (.int p0_2), .val (.long OFF), .second, .val (.long LIM), .second, .val (.int (bI (¬ ((p0_2 &&& (4 : Int32)) = (0 : Int32))))), .unset, .unset, .unset, .unset] [(.long LIM), (.long OFF), (.ref b138), (.int (bI (¬ ((p0_2 &&& (4 : Int32)) = (0 : Int32))))), (.ref b95), (.ref b59), (.ref b30), (.ref b19), (.ref b19)])) rfl (by rw [hml]; rfl) (Steps.refl _) (a := b19) (argsL := [(.ref b30), (.ref b59), (.ref b95), (.int (bI (¬ ((p0_2 &&& (4 : Int32)) = (0 : Int32))))), (.ref b138), (.long OFF), (.long LIM)]) (rest := [(.ref b19)]) (lenOf pd_1 rfl) rfl (by show 2 * 0 + _ ≤ _; exact Nat.le_of_eq rfl) (hb hby at_90) (fun _ _ => ⟨rfl, rfl, (by decide : 5 + 0 ≤ _), (by decide : 19 + 0 ≤ _)⟩)
  dsimp only [Pt.U, Pt.locs, Pt.cells, Pt.slots] at X188 l188 y188 z188 st188 hQ188
  subst l188 y188 z188
  obtain ⟨rfl, N188q, K188, r188_0, r188_1, r188_2, r188_3, r188_4, r188_5, r188_6, r188_7⟩ := hQ188
  have N189 := Fr.app N166 N188q
  have pre190 : ∀ t, Steps p.tables e below (T188.setTop (mkF m 93 #[.val (.long q0_0), .second, .val (.long q0_1), .second, .val (.int p0_2), .val (.long OFF), .second, .val (.long LIM), .second, .val (.int (bI (¬ ((p0_2 &&& (4 : Int32)) = (0 : Int32))))), .unset, .unset, .unset, .unset] [(.ref b19)])) t → Steps p.tables e below (s₁.setTop (entryFrame m #[(.long q0_0), (.long q0_1), (.int p0_2)] maxLocals)) t := fun t k => pre167 t (by
    show Steps p.tables e below (T165.setTop (mkF m 86 #[.val (.long q0_0), .second, .val (.long q0_1), .second, .val (.int p0_2), .val (.long OFF), .second, .val (.long LIM), .second, .val (.int (bI (¬ ((p0_2 &&& (4 : Int32)) = (0 : Int32))))), .unset, .unset, .unset, .unset] [(.ref b138), (.int (bI (¬ ((p0_2 &&& (4 : Int32)) = (0 : Int32))))), (.ref b95), (.ref b59), (.ref b30), (.ref b19), (.ref b19)])) _
    refine XS.lload X165.here hx rfl (hb hby at_86) rfl ?_
    show Steps p.tables e below (T165.setTop (mkF m 88 #[.val (.long q0_0), .second, .val (.long q0_1), .second, .val (.int p0_2), .val (.long OFF), .second, .val (.long LIM), .second, .val (.int (bI (¬ ((p0_2 &&& (4 : Int32)) = (0 : Int32))))), .unset, .unset, .unset, .unset] [(.long OFF), (.ref b138), (.int (bI (¬ ((p0_2 &&& (4 : Int32)) = (0 : Int32))))), (.ref b95), (.ref b59), (.ref b30), (.ref b19), (.ref b19)])) _
    refine XS.lload X165.here hx rfl (hb hby at_88) rfl ?_
    show Steps p.tables e below (T165.setTop (mkF m 90 #[.val (.long q0_0), .second, .val (.long q0_1), .second, .val (.int p0_2), .val (.long OFF), .second, .val (.long LIM), .second, .val (.int (bI (¬ ((p0_2 &&& (4 : Int32)) = (0 : Int32))))), .unset, .unset, .unset, .unset] [(.long LIM), (.long OFF), (.ref b138), (.int (bI (¬ ((p0_2 &&& (4 : Int32)) = (0 : Int32))))), (.ref b95), (.ref b59), (.ref b30), (.ref b19), (.ref b19)])) _
    refine st188.trans ?_
    exact k)
  have f191 := f168.keep K188
  have f192 := f176.keep K188
  have f193 := f177.keep K188 (ninS (Ne.symm ne31) nin0)
  have f194 := f178.keep K188 (ninS (Ne.symm ne31) nin0)
  have f195 := f179.keep K188
  have f196 := f180.keep K188 (ninS (Ne.symm ne60) nin0)
  have f197 := f181.keep K188 (ninS (Ne.symm ne60) nin0)
  have f198 := f182.keep K188
  have f199 := f183.keep K188 (ninS (Ne.symm ne96) nin0)
  have f200 := f184.keep K188 (ninS (Ne.symm ne96) nin0)
  have f201 := r165_0.keep K188
  have f202 := r165_1.keep K188 (ninS (Ne.symm ne139) nin0)
  have f203 := r165_2.keep K188 (ninS (Ne.symm ne139) nin0)
  have z204 := Nat.le_trans z186 K188.1
  have o205 := o187.keep K188 (allS gz19 all0)
  have pre207 : ∀ t, Steps p.tables e below (T188.setTop (mkF m 99 #[.val (.long q0_0), .second, .val (.long q0_1), .second, .val (.int p0_2), .val (.long OFF), .second, .val (.long LIM), .second, .val (.int (bI (¬ ((p0_2 &&& (4 : Int32)) = (0 : Int32))))), .val (.ref b19), .unset, .unset, .unset] [(.int (lcmpW OFF (0 : Int64)))])) t → Steps p.tables e below (s₁.setTop (entryFrame m #[(.long q0_0), (.long q0_1), (.int p0_2)] maxLocals)) t := fun t k => pre190 t (by
    show Steps p.tables e below (T188.setTop (mkF m 93 #[.val (.long q0_0), .second, .val (.long q0_1), .second, .val (.int p0_2), .val (.long OFF), .second, .val (.long LIM), .second, .val (.int (bI (¬ ((p0_2 &&& (4 : Int32)) = (0 : Int32))))), .unset, .unset, .unset, .unset] [(.ref b19)])) _
    refine XS.astore X188.here hx rfl (hb hby at_93) rfl rfl (l' := #[.val (.long q0_0), .second, .val (.long q0_1), .second, .val (.int p0_2), .val (.long OFF), .second, .val (.long LIM), .second, .val (.int (bI (¬ ((p0_2 &&& (4 : Int32)) = (0 : Int32))))), .val (.ref b19), .unset, .unset, .unset]) rfl ?_
    show Steps p.tables e below (T188.setTop (mkF m 95 #[.val (.long q0_0), .second, .val (.long q0_1), .second, .val (.int p0_2), .val (.long OFF), .second, .val (.long LIM), .second, .val (.int (bI (¬ ((p0_2 &&& (4 : Int32)) = (0 : Int32))))), .val (.ref b19), .unset, .unset, .unset] [])) _
    refine XS.lload X188.here hx rfl (hb hby at_95) rfl ?_
    show Steps p.tables e below (T188.setTop (mkF m 97 #[.val (.long q0_0), .second, .val (.long q0_1), .second, .val (.int p0_2), .val (.long OFF), .second, .val (.long LIM), .second, .val (.int (bI (¬ ((p0_2 &&& (4 : Int32)) = (0 : Int32))))), .val (.ref b19), .unset, .unset, .unset] [(.long OFF)])) _
    refine XS.lconst X188.here hx rfl (hb hby at_97) ?_
    show Steps p.tables e below (T188.setTop (mkF m 98 #[.val (.long q0_0), .second, .val (.long q0_1), .second, .val (.int p0_2), .val (.long OFF), .second, .val (.long LIM), .second, .val (.int (bI (¬ ((p0_2 &&& (4 : Int32)) = (0 : Int32))))), .val (.ref b19), .unset, .unset, .unset] [(.long (0 : Int64)), (.long OFF)])) _
    refine XS.lcmp X188.here hx rfl (hb hby at_98) rfl ?_
    exact k)
  have pre208 : ∀ t, Steps p.tables e below (T188.setTop (mkF m 107 #[.val (.long q0_0), .second, .val (.long q0_1), .second, .val (.int p0_2), .val (.long OFF), .second, .val (.long LIM), .second, .val (.int (bI (¬ ((p0_2 &&& (4 : Int32)) = (0 : Int32))))), .val (.ref b19), .unset, .unset, .unset] [(.int (bI (OFF = (0 : Int64))))])) t → Steps p.tables e below (s₁.setTop (entryFrame m #[(.long q0_0), (.long q0_1), (.int p0_2)] maxLocals)) t := fun t k => pre207 t (by
    by_cases hc206 : OFF = (0 : Int64)
    · show Steps p.tables e below (T188.setTop (mkF m 99 #[.val (.long q0_0), .second, .val (.long q0_1), .second, .val (.int p0_2), .val (.long OFF), .second, .val (.long LIM), .second, .val (.int (bI (¬ ((p0_2 &&& (4 : Int32)) = (0 : Int32))))), .val (.ref b19), .unset, .unset, .unset] [(.int (lcmpW OFF (0 : Int64)))])) _
      refine XS.ifNo X188.here hx rfl (hb hby at_99) rfl ((if0 _ _).trans (teq ((lw_eq _ _).mpr hc206)).2) ?_
      show Steps p.tables e below (T188.setTop (mkF m 102 #[.val (.long q0_0), .second, .val (.long q0_1), .second, .val (.int p0_2), .val (.long OFF), .second, .val (.long LIM), .second, .val (.int (bI (¬ ((p0_2 &&& (4 : Int32)) = (0 : Int32))))), .val (.ref b19), .unset, .unset, .unset] [])) _
      refine XS.iconst X188.here hx rfl (hb hby at_102) ?_
      show Steps p.tables e below (T188.setTop (mkF m 103 #[.val (.long q0_0), .second, .val (.long q0_1), .second, .val (.int p0_2), .val (.long OFF), .second, .val (.long LIM), .second, .val (.int (bI (¬ ((p0_2 &&& (4 : Int32)) = (0 : Int32))))), .val (.ref b19), .unset, .unset, .unset] [(.int (1 : Int32))])) _
      refine XS.goto X188.here hx rfl (pc0 := 103) (pc' := 107) rfl (hb hby at_103) (by decide) (by decide) ?_
      have q209 : (bI (OFF = (0 : Int64))) = (1 : Int32) := (bI_t hc206)
      exact castTop (g := (mkF m 107 #[.val (.long q0_0), .second, .val (.long q0_1), .second, .val (.int p0_2), .val (.long OFF), .second, .val (.long LIM), .second, .val (.int (bI (¬ ((p0_2 &&& (4 : Int32)) = (0 : Int32))))), .val (.ref b19), .unset, .unset, .unset] [(.int (1 : Int32))])) (g' := (mkF m 107 #[.val (.long q0_0), .second, .val (.long q0_1), .second, .val (.int p0_2), .val (.long OFF), .second, .val (.long LIM), .second, .val (.int (bI (¬ ((p0_2 &&& (4 : Int32)) = (0 : Int32))))), .val (.ref b19), .unset, .unset, .unset] [(.int (bI (OFF = (0 : Int64))))])) (by simp only [q209]) k
    · show Steps p.tables e below (T188.setTop (mkF m 99 #[.val (.long q0_0), .second, .val (.long q0_1), .second, .val (.int p0_2), .val (.long OFF), .second, .val (.long LIM), .second, .val (.int (bI (¬ ((p0_2 &&& (4 : Int32)) = (0 : Int32))))), .val (.ref b19), .unset, .unset, .unset] [(.int (lcmpW OFF (0 : Int64)))])) _
      refine XS.ifYes X188.here hx rfl (pc0 := 99) (pc' := 106) rfl (hb hby at_99) rfl ((if0 _ _).trans (feq (fun q => hc206 ((lw_eq _ _).mp q))).2) (by decide) (by decide) ?_
      show Steps p.tables e below (T188.setTop (mkF m 106 #[.val (.long q0_0), .second, .val (.long q0_1), .second, .val (.int p0_2), .val (.long OFF), .second, .val (.long LIM), .second, .val (.int (bI (¬ ((p0_2 &&& (4 : Int32)) = (0 : Int32))))), .val (.ref b19), .unset, .unset, .unset] [])) _
      refine XS.iconst X188.here hx rfl (hb hby at_106) ?_
      have q210 : (bI (OFF = (0 : Int64))) = (0 : Int32) := (bI_f hc206)
      exact castTop (g := (mkF m 107 #[.val (.long q0_0), .second, .val (.long q0_1), .second, .val (.int p0_2), .val (.long OFF), .second, .val (.long LIM), .second, .val (.int (bI (¬ ((p0_2 &&& (4 : Int32)) = (0 : Int32))))), .val (.ref b19), .unset, .unset, .unset] [(.int (0 : Int32))])) (g' := (mkF m 107 #[.val (.long q0_0), .second, .val (.long q0_1), .second, .val (.int p0_2), .val (.long OFF), .second, .val (.long LIM), .second, .val (.int (bI (¬ ((p0_2 &&& (4 : Int32)) = (0 : Int32))))), .val (.ref b19), .unset, .unset, .unset] [(.int (bI (OFF = (0 : Int64))))])) (by simp only [q210]) k)
  have pre212 : ∀ t, Steps p.tables e below (T188.setTop (mkF m 115 #[.val (.long q0_0), .second, .val (.long q0_1), .second, .val (.int p0_2), .val (.long OFF), .second, .val (.long LIM), .second, .val (.int (bI (¬ ((p0_2 &&& (4 : Int32)) = (0 : Int32))))), .val (.ref b19), .val (.int (bI (OFF = (0 : Int64)))), .unset, .unset] [(.int (lcmpW LIM (9223372036854775807 : Int64)))])) t → Steps p.tables e below (s₁.setTop (entryFrame m #[(.long q0_0), (.long q0_1), (.int p0_2)] maxLocals)) t := fun t k => pre208 t (by
    show Steps p.tables e below (T188.setTop (mkF m 107 #[.val (.long q0_0), .second, .val (.long q0_1), .second, .val (.int p0_2), .val (.long OFF), .second, .val (.long LIM), .second, .val (.int (bI (¬ ((p0_2 &&& (4 : Int32)) = (0 : Int32))))), .val (.ref b19), .unset, .unset, .unset] [(.int (bI (OFF = (0 : Int64))))])) _
    refine XS.istore X188.here hx rfl (hb hby at_107) rfl (l' := #[.val (.long q0_0), .second, .val (.long q0_1), .second, .val (.int p0_2), .val (.long OFF), .second, .val (.long LIM), .second, .val (.int (bI (¬ ((p0_2 &&& (4 : Int32)) = (0 : Int32))))), .val (.ref b19), .val (.int (bI (OFF = (0 : Int64)))), .unset, .unset]) rfl ?_
    show Steps p.tables e below (T188.setTop (mkF m 109 #[.val (.long q0_0), .second, .val (.long q0_1), .second, .val (.int p0_2), .val (.long OFF), .second, .val (.long LIM), .second, .val (.int (bI (¬ ((p0_2 &&& (4 : Int32)) = (0 : Int32))))), .val (.ref b19), .val (.int (bI (OFF = (0 : Int64)))), .unset, .unset] [])) _
    refine XS.lload X188.here hx rfl (hb hby at_109) rfl ?_
    show Steps p.tables e below (T188.setTop (mkF m 111 #[.val (.long q0_0), .second, .val (.long q0_1), .second, .val (.int p0_2), .val (.long OFF), .second, .val (.long LIM), .second, .val (.int (bI (¬ ((p0_2 &&& (4 : Int32)) = (0 : Int32))))), .val (.ref b19), .val (.int (bI (OFF = (0 : Int64)))), .unset, .unset] [(.long LIM)])) _
    refine X188.ldc2Long hx hown (mvT hZ (hVV 0 _ rfl)) (g := (mkF m 111 #[.val (.long q0_0), .second, .val (.long q0_1), .second, .val (.int p0_2), .val (.long OFF), .second, .val (.long LIM), .second, .val (.int (bI (¬ ((p0_2 &&& (4 : Int32)) = (0 : Int32))))), .val (.ref b19), .val (.int (bI (OFF = (0 : Int64)))), .unset, .unset] [(.long LIM)])) rfl (hb hby at_111) _ ?_
    show Steps p.tables e below (T188.setTop (mkF m 114 #[.val (.long q0_0), .second, .val (.long q0_1), .second, .val (.int p0_2), .val (.long OFF), .second, .val (.long LIM), .second, .val (.int (bI (¬ ((p0_2 &&& (4 : Int32)) = (0 : Int32))))), .val (.ref b19), .val (.int (bI (OFF = (0 : Int64)))), .unset, .unset] [(.long (9223372036854775807 : Int64)), (.long LIM)])) _
    refine XS.lcmp X188.here hx rfl (hb hby at_114) rfl ?_
    exact k)
  have pre213 : ∀ t, Steps p.tables e below (T188.setTop (mkF m 123 #[.val (.long q0_0), .second, .val (.long q0_1), .second, .val (.int p0_2), .val (.long OFF), .second, .val (.long LIM), .second, .val (.int (bI (¬ ((p0_2 &&& (4 : Int32)) = (0 : Int32))))), .val (.ref b19), .val (.int (bI (OFF = (0 : Int64)))), .unset, .unset] [(.int (bI (LIM = (9223372036854775807 : Int64))))])) t → Steps p.tables e below (s₁.setTop (entryFrame m #[(.long q0_0), (.long q0_1), (.int p0_2)] maxLocals)) t := fun t k => pre212 t (by
    by_cases hc211 : LIM = (9223372036854775807 : Int64)
    · show Steps p.tables e below (T188.setTop (mkF m 115 #[.val (.long q0_0), .second, .val (.long q0_1), .second, .val (.int p0_2), .val (.long OFF), .second, .val (.long LIM), .second, .val (.int (bI (¬ ((p0_2 &&& (4 : Int32)) = (0 : Int32))))), .val (.ref b19), .val (.int (bI (OFF = (0 : Int64)))), .unset, .unset] [(.int (lcmpW LIM (9223372036854775807 : Int64)))])) _
      refine XS.ifNo X188.here hx rfl (hb hby at_115) rfl ((if0 _ _).trans (teq ((lw_eq _ _).mpr hc211)).2) ?_
      show Steps p.tables e below (T188.setTop (mkF m 118 #[.val (.long q0_0), .second, .val (.long q0_1), .second, .val (.int p0_2), .val (.long OFF), .second, .val (.long LIM), .second, .val (.int (bI (¬ ((p0_2 &&& (4 : Int32)) = (0 : Int32))))), .val (.ref b19), .val (.int (bI (OFF = (0 : Int64)))), .unset, .unset] [])) _
      refine XS.iconst X188.here hx rfl (hb hby at_118) ?_
      show Steps p.tables e below (T188.setTop (mkF m 119 #[.val (.long q0_0), .second, .val (.long q0_1), .second, .val (.int p0_2), .val (.long OFF), .second, .val (.long LIM), .second, .val (.int (bI (¬ ((p0_2 &&& (4 : Int32)) = (0 : Int32))))), .val (.ref b19), .val (.int (bI (OFF = (0 : Int64)))), .unset, .unset] [(.int (1 : Int32))])) _
      refine XS.goto X188.here hx rfl (pc0 := 119) (pc' := 123) rfl (hb hby at_119) (by decide) (by decide) ?_
      have q214 : (bI (LIM = (9223372036854775807 : Int64))) = (1 : Int32) := (bI_t hc211)
      exact castTop (g := (mkF m 123 #[.val (.long q0_0), .second, .val (.long q0_1), .second, .val (.int p0_2), .val (.long OFF), .second, .val (.long LIM), .second, .val (.int (bI (¬ ((p0_2 &&& (4 : Int32)) = (0 : Int32))))), .val (.ref b19), .val (.int (bI (OFF = (0 : Int64)))), .unset, .unset] [(.int (1 : Int32))])) (g' := (mkF m 123 #[.val (.long q0_0), .second, .val (.long q0_1), .second, .val (.int p0_2), .val (.long OFF), .second, .val (.long LIM), .second, .val (.int (bI (¬ ((p0_2 &&& (4 : Int32)) = (0 : Int32))))), .val (.ref b19), .val (.int (bI (OFF = (0 : Int64)))), .unset, .unset] [(.int (bI (LIM = (9223372036854775807 : Int64))))])) (by simp only [q214]) k
    · show Steps p.tables e below (T188.setTop (mkF m 115 #[.val (.long q0_0), .second, .val (.long q0_1), .second, .val (.int p0_2), .val (.long OFF), .second, .val (.long LIM), .second, .val (.int (bI (¬ ((p0_2 &&& (4 : Int32)) = (0 : Int32))))), .val (.ref b19), .val (.int (bI (OFF = (0 : Int64)))), .unset, .unset] [(.int (lcmpW LIM (9223372036854775807 : Int64)))])) _
      refine XS.ifYes X188.here hx rfl (pc0 := 115) (pc' := 122) rfl (hb hby at_115) rfl ((if0 _ _).trans (feq (fun q => hc211 ((lw_eq _ _).mp q))).2) (by decide) (by decide) ?_
      show Steps p.tables e below (T188.setTop (mkF m 122 #[.val (.long q0_0), .second, .val (.long q0_1), .second, .val (.int p0_2), .val (.long OFF), .second, .val (.long LIM), .second, .val (.int (bI (¬ ((p0_2 &&& (4 : Int32)) = (0 : Int32))))), .val (.ref b19), .val (.int (bI (OFF = (0 : Int64)))), .unset, .unset] [])) _
      refine XS.iconst X188.here hx rfl (hb hby at_122) ?_
      have q215 : (bI (LIM = (9223372036854775807 : Int64))) = (0 : Int32) := (bI_f hc211)
      exact castTop (g := (mkF m 123 #[.val (.long q0_0), .second, .val (.long q0_1), .second, .val (.int p0_2), .val (.long OFF), .second, .val (.long LIM), .second, .val (.int (bI (¬ ((p0_2 &&& (4 : Int32)) = (0 : Int32))))), .val (.ref b19), .val (.int (bI (OFF = (0 : Int64)))), .unset, .unset] [(.int (0 : Int32))])) (g' := (mkF m 123 #[.val (.long q0_0), .second, .val (.long q0_1), .second, .val (.int p0_2), .val (.long OFF), .second, .val (.long LIM), .second, .val (.int (bI (¬ ((p0_2 &&& (4 : Int32)) = (0 : Int32))))), .val (.ref b19), .val (.int (bI (OFF = (0 : Int64)))), .unset, .unset] [(.int (bI (LIM = (9223372036854775807 : Int64))))])) (by simp only [q215]) k)
  have pre218 : ∀ t, Steps p.tables e below (T188.setTop (mkF m 127 #[.val (.long q0_0), .second, .val (.long q0_1), .second, .val (.int p0_2), .val (.long OFF), .second, .val (.long LIM), .second, .val (.int (bI (¬ ((p0_2 &&& (4 : Int32)) = (0 : Int32))))), .val (.ref b19), .val (.int (bI (OFF = (0 : Int64)))), .val (.int (bI (LIM = (9223372036854775807 : Int64)))), .unset] [(.int (bI (OFF = (0 : Int64))))])) t → Steps p.tables e below (s₁.setTop (entryFrame m #[(.long q0_0), (.long q0_1), (.int p0_2)] maxLocals)) t := fun t k => pre213 t (by
    show Steps p.tables e below (T188.setTop (mkF m 123 #[.val (.long q0_0), .second, .val (.long q0_1), .second, .val (.int p0_2), .val (.long OFF), .second, .val (.long LIM), .second, .val (.int (bI (¬ ((p0_2 &&& (4 : Int32)) = (0 : Int32))))), .val (.ref b19), .val (.int (bI (OFF = (0 : Int64)))), .unset, .unset] [(.int (bI (LIM = (9223372036854775807 : Int64))))])) _
    refine XS.istore X188.here hx rfl (hb hby at_123) rfl (l' := #[.val (.long q0_0), .second, .val (.long q0_1), .second, .val (.int p0_2), .val (.long OFF), .second, .val (.long LIM), .second, .val (.int (bI (¬ ((p0_2 &&& (4 : Int32)) = (0 : Int32))))), .val (.ref b19), .val (.int (bI (OFF = (0 : Int64)))), .val (.int (bI (LIM = (9223372036854775807 : Int64)))), .unset]) rfl ?_
    show Steps p.tables e below (T188.setTop (mkF m 125 #[.val (.long q0_0), .second, .val (.long q0_1), .second, .val (.int p0_2), .val (.long OFF), .second, .val (.long LIM), .second, .val (.int (bI (¬ ((p0_2 &&& (4 : Int32)) = (0 : Int32))))), .val (.ref b19), .val (.int (bI (OFF = (0 : Int64)))), .val (.int (bI (LIM = (9223372036854775807 : Int64)))), .unset] [])) _
    refine XS.iload X188.here hx rfl (hb hby at_125) rfl ?_
    exact k)
  have pre219 : ∀ t, Steps p.tables e below (T188.setTop (mkF m 140 #[.val (.long q0_0), .second, .val (.long q0_1), .second, .val (.int p0_2), .val (.long OFF), .second, .val (.long LIM), .second, .val (.int (bI (¬ ((p0_2 &&& (4 : Int32)) = (0 : Int32))))), .val (.ref b19), .val (.int (bI (OFF = (0 : Int64)))), .val (.int (bI (LIM = (9223372036854775807 : Int64)))), .unset] [(.int (bI (¬ (OFF = (0 : Int64)) ∨ (¬ (LIM = (9223372036854775807 : Int64))))))])) t → Steps p.tables e below (s₁.setTop (entryFrame m #[(.long q0_0), (.long q0_1), (.int p0_2)] maxLocals)) t := fun t k => pre218 t (by
    by_cases hc216 : OFF = (0 : Int64)
    · show Steps p.tables e below (T188.setTop (mkF m 127 #[.val (.long q0_0), .second, .val (.long q0_1), .second, .val (.int p0_2), .val (.long OFF), .second, .val (.long LIM), .second, .val (.int (bI (¬ ((p0_2 &&& (4 : Int32)) = (0 : Int32))))), .val (.ref b19), .val (.int (bI (OFF = (0 : Int64)))), .val (.int (bI (LIM = (9223372036854775807 : Int64)))), .unset] [(.int (bI (OFF = (0 : Int64))))])) _
      refine XS.ifNo X188.here hx rfl (hb hby at_127) rfl ((if0 _ _).trans (feq (bI_n hc216)).1) ?_
      show Steps p.tables e below (T188.setTop (mkF m 130 #[.val (.long q0_0), .second, .val (.long q0_1), .second, .val (.int p0_2), .val (.long OFF), .second, .val (.long LIM), .second, .val (.int (bI (¬ ((p0_2 &&& (4 : Int32)) = (0 : Int32))))), .val (.ref b19), .val (.int (bI (OFF = (0 : Int64)))), .val (.int (bI (LIM = (9223372036854775807 : Int64)))), .unset] [])) _
      refine XS.iload X188.here hx rfl (hb hby at_130) rfl ?_
      by_cases hc217 : LIM = (9223372036854775807 : Int64)
      · show Steps p.tables e below (T188.setTop (mkF m 132 #[.val (.long q0_0), .second, .val (.long q0_1), .second, .val (.int p0_2), .val (.long OFF), .second, .val (.long LIM), .second, .val (.int (bI (¬ ((p0_2 &&& (4 : Int32)) = (0 : Int32))))), .val (.ref b19), .val (.int (bI (OFF = (0 : Int64)))), .val (.int (bI (LIM = (9223372036854775807 : Int64)))), .unset] [(.int (bI (LIM = (9223372036854775807 : Int64))))])) _
        refine XS.ifYes X188.here hx rfl (pc0 := 132) (pc' := 139) rfl (hb hby at_132) rfl ((if0 _ _).trans (feq (bI_n hc217)).2) (by decide) (by decide) ?_
        show Steps p.tables e below (T188.setTop (mkF m 139 #[.val (.long q0_0), .second, .val (.long q0_1), .second, .val (.int p0_2), .val (.long OFF), .second, .val (.long LIM), .second, .val (.int (bI (¬ ((p0_2 &&& (4 : Int32)) = (0 : Int32))))), .val (.ref b19), .val (.int (bI (OFF = (0 : Int64)))), .val (.int (bI (LIM = (9223372036854775807 : Int64)))), .unset] [])) _
        refine XS.iconst X188.here hx rfl (hb hby at_139) ?_
        have q220 : (bI (¬ (OFF = (0 : Int64)) ∨ (¬ (LIM = (9223372036854775807 : Int64))))) = (0 : Int32) := (bI_f (fun z => z.elim (fun y => y hc216) (fun q => q hc217)))
        exact castTop (g := (mkF m 140 #[.val (.long q0_0), .second, .val (.long q0_1), .second, .val (.int p0_2), .val (.long OFF), .second, .val (.long LIM), .second, .val (.int (bI (¬ ((p0_2 &&& (4 : Int32)) = (0 : Int32))))), .val (.ref b19), .val (.int (bI (OFF = (0 : Int64)))), .val (.int (bI (LIM = (9223372036854775807 : Int64)))), .unset] [(.int (0 : Int32))])) (g' := (mkF m 140 #[.val (.long q0_0), .second, .val (.long q0_1), .second, .val (.int p0_2), .val (.long OFF), .second, .val (.long LIM), .second, .val (.int (bI (¬ ((p0_2 &&& (4 : Int32)) = (0 : Int32))))), .val (.ref b19), .val (.int (bI (OFF = (0 : Int64)))), .val (.int (bI (LIM = (9223372036854775807 : Int64)))), .unset] [(.int (bI (¬ (OFF = (0 : Int64)) ∨ (¬ (LIM = (9223372036854775807 : Int64))))))])) (by simp only [q220]) k
      · show Steps p.tables e below (T188.setTop (mkF m 132 #[.val (.long q0_0), .second, .val (.long q0_1), .second, .val (.int p0_2), .val (.long OFF), .second, .val (.long LIM), .second, .val (.int (bI (¬ ((p0_2 &&& (4 : Int32)) = (0 : Int32))))), .val (.ref b19), .val (.int (bI (OFF = (0 : Int64)))), .val (.int (bI (LIM = (9223372036854775807 : Int64)))), .unset] [(.int (bI (LIM = (9223372036854775807 : Int64))))])) _
        refine XS.ifNo X188.here hx rfl (hb hby at_132) rfl ((if0 _ _).trans (teq (bI_f hc217)).2) ?_
        show Steps p.tables e below (T188.setTop (mkF m 135 #[.val (.long q0_0), .second, .val (.long q0_1), .second, .val (.int p0_2), .val (.long OFF), .second, .val (.long LIM), .second, .val (.int (bI (¬ ((p0_2 &&& (4 : Int32)) = (0 : Int32))))), .val (.ref b19), .val (.int (bI (OFF = (0 : Int64)))), .val (.int (bI (LIM = (9223372036854775807 : Int64)))), .unset] [])) _
        refine XS.iconst X188.here hx rfl (hb hby at_135) ?_
        show Steps p.tables e below (T188.setTop (mkF m 136 #[.val (.long q0_0), .second, .val (.long q0_1), .second, .val (.int p0_2), .val (.long OFF), .second, .val (.long LIM), .second, .val (.int (bI (¬ ((p0_2 &&& (4 : Int32)) = (0 : Int32))))), .val (.ref b19), .val (.int (bI (OFF = (0 : Int64)))), .val (.int (bI (LIM = (9223372036854775807 : Int64)))), .unset] [(.int (1 : Int32))])) _
        refine XS.goto X188.here hx rfl (pc0 := 136) (pc' := 140) rfl (hb hby at_136) (by decide) (by decide) ?_
        have q221 : (bI (¬ (OFF = (0 : Int64)) ∨ (¬ (LIM = (9223372036854775807 : Int64))))) = (1 : Int32) := (bI_t (Or.inr hc217))
        exact castTop (g := (mkF m 140 #[.val (.long q0_0), .second, .val (.long q0_1), .second, .val (.int p0_2), .val (.long OFF), .second, .val (.long LIM), .second, .val (.int (bI (¬ ((p0_2 &&& (4 : Int32)) = (0 : Int32))))), .val (.ref b19), .val (.int (bI (OFF = (0 : Int64)))), .val (.int (bI (LIM = (9223372036854775807 : Int64)))), .unset] [(.int (1 : Int32))])) (g' := (mkF m 140 #[.val (.long q0_0), .second, .val (.long q0_1), .second, .val (.int p0_2), .val (.long OFF), .second, .val (.long LIM), .second, .val (.int (bI (¬ ((p0_2 &&& (4 : Int32)) = (0 : Int32))))), .val (.ref b19), .val (.int (bI (OFF = (0 : Int64)))), .val (.int (bI (LIM = (9223372036854775807 : Int64)))), .unset] [(.int (bI (¬ (OFF = (0 : Int64)) ∨ (¬ (LIM = (9223372036854775807 : Int64))))))])) (by simp only [q221]) k
    · show Steps p.tables e below (T188.setTop (mkF m 127 #[.val (.long q0_0), .second, .val (.long q0_1), .second, .val (.int p0_2), .val (.long OFF), .second, .val (.long LIM), .second, .val (.int (bI (¬ ((p0_2 &&& (4 : Int32)) = (0 : Int32))))), .val (.ref b19), .val (.int (bI (OFF = (0 : Int64)))), .val (.int (bI (LIM = (9223372036854775807 : Int64)))), .unset] [(.int (bI (OFF = (0 : Int64))))])) _
      refine XS.ifYes X188.here hx rfl (pc0 := 127) (pc' := 135) rfl (hb hby at_127) rfl ((if0 _ _).trans (teq (bI_f hc216)).1) (by decide) (by decide) ?_
      show Steps p.tables e below (T188.setTop (mkF m 135 #[.val (.long q0_0), .second, .val (.long q0_1), .second, .val (.int p0_2), .val (.long OFF), .second, .val (.long LIM), .second, .val (.int (bI (¬ ((p0_2 &&& (4 : Int32)) = (0 : Int32))))), .val (.ref b19), .val (.int (bI (OFF = (0 : Int64)))), .val (.int (bI (LIM = (9223372036854775807 : Int64)))), .unset] [])) _
      refine XS.iconst X188.here hx rfl (hb hby at_135) ?_
      show Steps p.tables e below (T188.setTop (mkF m 136 #[.val (.long q0_0), .second, .val (.long q0_1), .second, .val (.int p0_2), .val (.long OFF), .second, .val (.long LIM), .second, .val (.int (bI (¬ ((p0_2 &&& (4 : Int32)) = (0 : Int32))))), .val (.ref b19), .val (.int (bI (OFF = (0 : Int64)))), .val (.int (bI (LIM = (9223372036854775807 : Int64)))), .unset] [(.int (1 : Int32))])) _
      refine XS.goto X188.here hx rfl (pc0 := 136) (pc' := 140) rfl (hb hby at_136) (by decide) (by decide) ?_
      have q222 : (bI (¬ (OFF = (0 : Int64)) ∨ (¬ (LIM = (9223372036854775807 : Int64))))) = (1 : Int32) := (bI_t (Or.inl hc216))
      exact castTop (g := (mkF m 140 #[.val (.long q0_0), .second, .val (.long q0_1), .second, .val (.int p0_2), .val (.long OFF), .second, .val (.long LIM), .second, .val (.int (bI (¬ ((p0_2 &&& (4 : Int32)) = (0 : Int32))))), .val (.ref b19), .val (.int (bI (OFF = (0 : Int64)))), .val (.int (bI (LIM = (9223372036854775807 : Int64)))), .unset] [(.int (1 : Int32))])) (g' := (mkF m 140 #[.val (.long q0_0), .second, .val (.long q0_1), .second, .val (.int p0_2), .val (.long OFF), .second, .val (.long LIM), .second, .val (.int (bI (¬ ((p0_2 &&& (4 : Int32)) = (0 : Int32))))), .val (.ref b19), .val (.int (bI (OFF = (0 : Int64)))), .val (.int (bI (LIM = (9223372036854775807 : Int64)))), .unset] [(.int (bI (¬ (OFF = (0 : Int64)) ∨ (¬ (LIM = (9223372036854775807 : Int64))))))])) (by simp only [q222]) k)
  obtain ⟨cq223, kq223, q223a, q223b, q223c⟩ := isOf hZ rfl r188_0
  obtain ⟨_, _, ⟨T223, L223, k223, n223⟩, -, X223, ⟨Lc223, hQ223, l223, y223, z223⟩, st223⟩ := X188.virtualBack hx (y := (⟨"com/example/tripleshard/tripleshard/sparql/Query", "sliced", "()Z"⟩ : MethodName)) (z := (⟨"com/example/tripleshard/tripleshard/sparql/Query", "sliced", "()Z"⟩ : MethodName)) hown (mvT hZ (hVV 53 _ rfl)) (mvT hZ (hVV 54 _ rfl)) (notFace_of_selects (args := #[]) (mvT hZ (hVV 56 _ rfl))) (mvT hZ (hVV 56 _ rfl)) (mvT hZ (hVV 55 _ rfl)) (by decide) (backOf (W := 0) (rm7 l Z a0 hw [] b19 OFF LIM T188.heap n0 z204 r188_6 r188_7) hZ (hVV 57 _ rfl) (hVV 3 _ rfl) (by decide) (by decide)) q223a q223c (g := (mkF m 144 #[.val (.long q0_0), .second, .val (.long q0_1), .second, .val (.int p0_2), .val (.long OFF), .second, .val (.long LIM), .second, .val (.int (bI (¬ ((p0_2 &&& (4 : Int32)) = (0 : Int32))))), .val (.ref b19), .val (.int (bI (OFF = (0 : Int64)))), .val (.int (bI (LIM = (9223372036854775807 : Int64)))), .val (.int (bI (¬ (OFF = (0 : Int64)) ∨ (¬ (LIM = (9223372036854775807 : Int64))))))] [(.ref b19)])) rfl (by rw [hml]; rfl) (Steps.refl _) (argsL := []) (rest := []) (lenOf pd_2 rfl) rfl (by show 2 * 0 + _ ≤ _; exact Nat.le_of_eq rfl) (hb hby at_144) (fun _ _ => ⟨rfl, rfl, (by decide : 5 + 0 ≤ _), (by decide : 19 + 0 ≤ _)⟩)
  dsimp only [Pt.U, Pt.locs, Pt.cells, Pt.slots] at X223 l223 y223 z223 st223 hQ223
  subst l223 y223 z223
  obtain ⟨rfl, N223q, e223⟩ := hQ223
  have N224 := Fr.app N189 N223q
  have pre225 : ∀ t, Steps p.tables e below (T223.setTop (mkF m 147 #[.val (.long q0_0), .second, .val (.long q0_1), .second, .val (.int p0_2), .val (.long OFF), .second, .val (.long LIM), .second, .val (.int (bI (¬ ((p0_2 &&& (4 : Int32)) = (0 : Int32))))), .val (.ref b19), .val (.int (bI (OFF = (0 : Int64)))), .val (.int (bI (LIM = (9223372036854775807 : Int64)))), .val (.int (bI (¬ (OFF = (0 : Int64)) ∨ (¬ (LIM = (9223372036854775807 : Int64))))))] [(.int (bI (((0 : Int64) < OFF) ∨ (LIM < (9223372036854775807 : Int64)))))])) t → Steps p.tables e below (s₁.setTop (entryFrame m #[(.long q0_0), (.long q0_1), (.int p0_2)] maxLocals)) t := fun t k => pre219 t (by
    show Steps p.tables e below (T188.setTop (mkF m 140 #[.val (.long q0_0), .second, .val (.long q0_1), .second, .val (.int p0_2), .val (.long OFF), .second, .val (.long LIM), .second, .val (.int (bI (¬ ((p0_2 &&& (4 : Int32)) = (0 : Int32))))), .val (.ref b19), .val (.int (bI (OFF = (0 : Int64)))), .val (.int (bI (LIM = (9223372036854775807 : Int64)))), .unset] [(.int (bI (¬ (OFF = (0 : Int64)) ∨ (¬ (LIM = (9223372036854775807 : Int64))))))])) _
    refine XS.istore X188.here hx rfl (hb hby at_140) rfl (l' := #[.val (.long q0_0), .second, .val (.long q0_1), .second, .val (.int p0_2), .val (.long OFF), .second, .val (.long LIM), .second, .val (.int (bI (¬ ((p0_2 &&& (4 : Int32)) = (0 : Int32))))), .val (.ref b19), .val (.int (bI (OFF = (0 : Int64)))), .val (.int (bI (LIM = (9223372036854775807 : Int64)))), .val (.int (bI (¬ (OFF = (0 : Int64)) ∨ (¬ (LIM = (9223372036854775807 : Int64))))))]) rfl ?_
    show Steps p.tables e below (T188.setTop (mkF m 142 #[.val (.long q0_0), .second, .val (.long q0_1), .second, .val (.int p0_2), .val (.long OFF), .second, .val (.long LIM), .second, .val (.int (bI (¬ ((p0_2 &&& (4 : Int32)) = (0 : Int32))))), .val (.ref b19), .val (.int (bI (OFF = (0 : Int64)))), .val (.int (bI (LIM = (9223372036854775807 : Int64)))), .val (.int (bI (¬ (OFF = (0 : Int64)) ∨ (¬ (LIM = (9223372036854775807 : Int64))))))] [])) _
    refine XS.aload X188.here hx rfl (hb hby at_142) rfl rfl ?_
    show Steps p.tables e below (T188.setTop (mkF m 144 #[.val (.long q0_0), .second, .val (.long q0_1), .second, .val (.int p0_2), .val (.long OFF), .second, .val (.long LIM), .second, .val (.int (bI (¬ ((p0_2 &&& (4 : Int32)) = (0 : Int32))))), .val (.ref b19), .val (.int (bI (OFF = (0 : Int64)))), .val (.int (bI (LIM = (9223372036854775807 : Int64)))), .val (.int (bI (¬ (OFF = (0 : Int64)) ∨ (¬ (LIM = (9223372036854775807 : Int64))))))] [(.ref b19)])) _
    refine st223.trans ?_
    exact k)
  have hd226 : (bI (((0 : Int64) < OFF) ∨ (LIM < (9223372036854775807 : Int64)))) = (bI (¬ (OFF = (0 : Int64)) ∨ (¬ (LIM = (9223372036854775807 : Int64))))) := by
    exact own_fin OFF LIM hOFF0
  obtain ⟨fs, hr, hrun, hended, hW, hsame⟩ := X223.leave (v := some (.int (1 : Int32))) (fun h => by rw [Bd.returns] at h; cases h)
  refine ⟨_, _, pre225 _ ?_, hrun, hended, _, _, rfl, ?_, ⟨_, rfl⟩, hW, hsame.mono (by decide) (by decide)⟩
  · show Steps p.tables e below (T223.setTop (mkF m 147 #[.val (.long q0_0), .second, .val (.long q0_1), .second, .val (.int p0_2), .val (.long OFF), .second, .val (.long LIM), .second, .val (.int (bI (¬ ((p0_2 &&& (4 : Int32)) = (0 : Int32))))), .val (.ref b19), .val (.int (bI (OFF = (0 : Int64)))), .val (.int (bI (LIM = (9223372036854775807 : Int64)))), .val (.int (bI (¬ (OFF = (0 : Int64)) ∨ (¬ (LIM = (9223372036854775807 : Int64))))))] [(.int (bI (((0 : Int64) < OFF) ∨ (LIM < (9223372036854775807 : Int64)))))])) _
    refine XS.iload X223.here hx rfl (hb hby at_147) rfl ?_
    show Steps p.tables e below (T223.setTop (mkF m 149 #[.val (.long q0_0), .second, .val (.long q0_1), .second, .val (.int p0_2), .val (.long OFF), .second, .val (.long LIM), .second, .val (.int (bI (¬ ((p0_2 &&& (4 : Int32)) = (0 : Int32))))), .val (.ref b19), .val (.int (bI (OFF = (0 : Int64)))), .val (.int (bI (LIM = (9223372036854775807 : Int64)))), .val (.int (bI (¬ (OFF = (0 : Int64)) ∨ (¬ (LIM = (9223372036854775807 : Int64))))))] [(.int (bI (¬ (OFF = (0 : Int64)) ∨ (¬ (LIM = (9223372036854775807 : Int64)))))), (.int (bI (((0 : Int64) < OFF) ∨ (LIM < (9223372036854775807 : Int64)))))])) _
    refine XS.icmpNo X223.here hx rfl (hb hby at_149) rfl (teq hd226).2 ?_
    show Steps p.tables e below (T223.setTop (mkF m 152 #[.val (.long q0_0), .second, .val (.long q0_1), .second, .val (.int p0_2), .val (.long OFF), .second, .val (.long LIM), .second, .val (.int (bI (¬ ((p0_2 &&& (4 : Int32)) = (0 : Int32))))), .val (.ref b19), .val (.int (bI (OFF = (0 : Int64)))), .val (.int (bI (LIM = (9223372036854775807 : Int64)))), .val (.int (bI (¬ (OFF = (0 : Int64)) ∨ (¬ (LIM = (9223372036854775807 : Int64))))))] [])) _
    refine XS.iconst X223.here hx rfl (hb hby at_152) ?_
    show Steps p.tables e below (T223.setTop (mkF m 153 #[.val (.long q0_0), .second, .val (.long q0_1), .second, .val (.int p0_2), .val (.long OFF), .second, .val (.long LIM), .second, .val (.int (bI (¬ ((p0_2 &&& (4 : Int32)) = (0 : Int32))))), .val (.ref b19), .val (.int (bI (OFF = (0 : Int64)))), .val (.int (bI (LIM = (9223372036854775807 : Int64)))), .val (.int (bI (¬ (OFF = (0 : Int64)) ∨ (¬ (LIM = (9223372036854775807 : Int64))))))] [(.int (1 : Int32))])) _
    refine XS.goto X223.here hx rfl (pc0 := 153) (pc' := 157) rfl (hb hby at_153) (by decide) (by decide) ?_
    show Steps p.tables e below (T223.setTop (mkF m 157 #[.val (.long q0_0), .second, .val (.long q0_1), .second, .val (.int p0_2), .val (.long OFF), .second, .val (.long LIM), .second, .val (.int (bI (¬ ((p0_2 &&& (4 : Int32)) = (0 : Int32))))), .val (.ref b19), .val (.int (bI (OFF = (0 : Int64)))), .val (.int (bI (LIM = (9223372036854775807 : Int64)))), .val (.int (bI (¬ (OFF = (0 : Int64)) ∨ (¬ (LIM = (9223372036854775807 : Int64))))))] [(.int (1 : Int32))])) _
    exact retN X223 hx (t := .boolean) Bd.returns (by simp) (hb hby at_157) hr
  · show Q0 Z q0_0 q0_1 p0_2 w0_DEFAULTCAPACITY_EMPTY_ELEMENTDATA h0 n0 _ T223.heap _
    rw [e223]
    exact ⟨rfl, N224⟩
set_option maxRecDepth 65536 in
set_option maxHeartbeats 40000000 in
theorem comes_1 {Post : Tables → Env → Array Value → State → Outcome → State → Prop} (hpost : ∀ tb e args s v u, (limb_1_1.after args s (.returned v) u = true ∧ limb_1_2.after args s (.returned v) u = true ∧ True) → FrameEnd s (.returned v) u (Jvm.fieldLocs frame_1_writes args s ++ Jvm.arrayLocs frame_1_arrays args s ++ Jvm.staticLocs frame_1_statics s) 24 128 → Post tb e args s (.returned v) u) :
    ArmFor flags0 classFile x code maxLocals ret World_1 tables_1 room_1 Calls_1 rest_1 Pre_1 Post := by
  intro l hfl _ _ p e ha hc hk s m args below hf hA hF happ hP
  obtain ⟨hcalls, hrest, hpre⟩ := hP
  obtain ⟨-, -, -, hnamed, -, -, -, hat⟩ := (Spec.applies_iff hf).mp happ
  obtain ⟨hg, hn⟩ := and_e (Cond.before_iff.mp (show (Jvm.Cond.and given_1 narrow_1).before args s = true from hpre))
  obtain ⟨g1, g2⟩ := and_e hg
  obtain ⟨g3, g4⟩ := and_e g2
  obtain ⟨g5, g6⟩ := and_e g4
  obtain ⟨w0, w1, w2, rfl⟩ : ∃ w0 w1 w2 : Value, args = #[w0, w1, w2] := by
    have hs : args.size = 3 := by simpa [Cond.value, given_1] using g1
    obtain ⟨L⟩ := args
    match L, hs with
    | [w0, w1, w2], _ => exact ⟨w0, w1, w2, rfl⟩
  have hw := fun d (hd : d ∈ tables_1) => atoms_spec (ws := Jvm.Cond.code x code maxLocals ret :: tables_1) hat d (List.mem_cons_of_mem _ hd)
  have hfit : Fit s := fun {y c} hc i hi => by
    obtain ⟨ha, rfl⟩ := Array.getElem?_eq_some_iff.mp hc
    have q := List.all_eq_true.mp ((Array.all_eq_true_iff_forall_mem.mp hF) _ (Array.getElem_mem ha)) i (List.mem_range.mpr hi)
    simpa [Array.getElem?_eq_getElem hi] using q
  obtain ⟨hsets, hown0⟩ := atoms_of _ (rest_1_c_eq ▸ (show rest_1_c.before _ s = true from hrest))
  have hr0 := Cond.before_iff.mp hown0
  obtain ⟨i0, ei0⟩ := isL_v g3
  obtain rfl : w0 = (.long i0) := Option.some.inj ei0
  obtain ⟨i1, ei1⟩ := isL_v g5
  obtain rfl : w1 = (.long i1) := Option.some.inj ei1
  obtain ⟨i2, ei2⟩ := is_v g6
  obtain rfl : w2 = (.int i2) := Option.some.inj ei2
  obtain ⟨sv, esv⟩ := arr_v (Cond.before_iff.mp (hsets _ (List.mem_of_getElem? (i := 6) rfl)))
  have S0 : Sta s s.heap "java/util/ArrayList" "DEFAULTCAPACITY_EMPTY_ELEMENTDATA" "[Ljava/lang/Object;" (.ref sv) := Sta.start esv (Or.inr ⟨hw _ (List.mem_of_getElem? (i := 6) rfl), hsets _ (List.mem_of_getElem? (i := 2) rfl)⟩)
  obtain ⟨n, o, h1, h2, h3, _, L, rfl, ⟨rfl, N⟩, hq⟩ := rm0 l s _ hw tables_1 i0 i1 i2 sv s.heap s.heap.size (Nat.le_refl _) (Old.start s) S0 p e ha hc hk s m _ below hf ((Spec.applies_iff_loose hf).mp happ).1 ⟨rfl, State.Warmed39.refl s, rfl⟩ trivial
  refine ⟨n, _, h1, h2, h3, hpost _ _ _ _ _ _ ⟨Cond.after_iff.mpr rfl, Cond.after_iff.mpr (eq_i res_at (Term.int_eval (1)) rfl), trivial⟩ ⟨hq.1, hq.2.1, (hq.2.2.sift fun y hy => Or.inr (N y hy)).mono (by decide) (by decide)⟩⟩
theorem main_1_1 : Claimed_1_1 := comes_1 fun _ _ _ _ _ _ h hF => ⟨h.1, hF⟩
theorem main_1_2 : Claimed_1_2 := comes_1 fun _ _ _ _ _ _ h hF => ⟨h.2.1, hF⟩
end Jvm.Pilot.@@N@@
namespace Jvm.Pilot.@@N@@
open Jvm Jvm.ClassFile Sem Op Lib Jvm.Free Jvm.Stand Jvm.Pilot.@@N@@.Jvm.D
/-! MADE BY PROGRAM (witnessworld.py) out of the Statement's table words and the real class files: 19 classes; the members and pool entries that the words name. The judged class is class 1, her method 1. -/
namespace start1
open Jvm.ClassFile
def u (s : String) : CpInfo := .utf8 (stringToUtf16 s)
/-- a pool by its gaps: so many unusable entries, then the entry; so many at the end -/
def gap : Nat → List CpInfo → List CpInfo
  | 0, r => r
  | n + 1, r => .unusable :: gap n r
def poolList (es : List (Nat × CpInfo)) (last : Nat) : List CpInfo := es.foldr (fun e r => gap e.1 (e.2 :: r)) (gap last [])
def pool (es : List (Nat × CpInfo)) (last : Nat) : Array CpInfo := ⟨poolList es last⟩
def fileOf (pool : Array CpInfo) (this : Nat) (attrs : Array Attribute := #[]) (ms : Array MethodInfo := #[]) (fl : Nat := 33) (sup : Nat := 0) (ifs : Array Nat := #[]) (fds : Array FieldInfo := #[]) : ClassFile where
  minorVersion := 0
  majorVersion := 65
  constantPool := pool
  accessFlags := fl
  thisClass := this
  superClass := sup
  interfaces := ifs
  fields := fds
  methods := ms
  attributes := attrs
def plain (name : String) (sup : Option ClassId) : Class where
  name := name
  kind := .ordinary
  loader := none
  accessFlags := 33
  super := sup
  interfaces := #[]
  cf := none
  fields := #[]
  methods := #[]
  instanceTypes := #[]
  staticTypes := #[]
  resolved := #[]
  callSites := []
  init := .initialized
  statics := none
  mirror := none

def pool0 : Array CpInfo := pool [(5, u "<init>"), (0, u "()V"), (1, .class_ 10), (1, u "java/lang/Object")] 113

def k0c0 : Code := { maxStack := 0, maxLocals := 1, code := object_method_1_code, exceptionTable := #[], attributes := #[] }
def k0m0 : Method := { name := "<init>", desc := "()V", sig := { parameters := [], returnType := none }, accessFlags := 1, code := some k0c0 }
/-- java/lang/Object -/
def k0 : Class := { plain "java/lang/Object" none with
  accessFlags := 33
  interfaces := #[]
  cf := some (fileOf pool0 8 #[] #[{ accessFlags := 1, nameIndex := 5, descriptorIndex := 6, attributes := #[] }] 33 0 #[] #[])
  fields := #[]
  methods := #[k0m0]
  instanceTypes := #[]
  staticTypes := #[]
  resolved := Array.replicate 124 none
  statics := none }

def pool1 : Array CpInfo := pool [(2, .class_ 4), (0, .nameAndType 5 6), (0, u "java/lang/Object"), (0, u "<init>"), (0, u "()V"), (2, .long 9223372036854775807), (1, .class_ 12), (0, u "com/example/tripleshard/tripleshard/sparql/Query"), (0, .class_ 14), (0, u "java/util/ArrayList"), (0, .methodref 13 3), (0, .methodref 11 17), (0, .nameAndType 5 18), (0, u "(Ljava/util/List;Ljava/util/List;Ljava/util/List;ZLjava/util/List;JJ)V"), (0, .methodref 11 20), (0, .nameAndType 21 22), (0, u "sliced"), (0, u "()Z"), (0, .class_ 24), (0, u "com/example/tripleshard/tripleshard/sparql/QuerySlicedPinLaw"), (2, u "law"), (0, u "(JJI)Z")] 3

def k1m0 : Method := { name := "<init>", desc := "()V", sig := { parameters := [], returnType := none }, accessFlags := 2, code := none }
def k1c1 : Code := { maxStack := 11, maxLocals := 14, code := code, exceptionTable := #[], attributes := #[] }
def k1m1 : Method := { name := "law", desc := "(JJI)Z", sig := { parameters := [.long, .long, .int], returnType := some .boolean }, accessFlags := 9, code := some k1c1 }
/-- com/example/tripleshard/tripleshard/sparql/QuerySlicedPinLaw -/
def k1 : Class := { plain "com/example/tripleshard/tripleshard/sparql/QuerySlicedPinLaw" (some 0) with
  accessFlags := 49
  interfaces := #[]
  cf := some (fileOf pool1 23 #[] #[{ accessFlags := 2, nameIndex := 5, descriptorIndex := 6, attributes := #[] }, { accessFlags := 9, nameIndex := 27, descriptorIndex := 28, attributes := #[] }] 49 2 #[] #[])
  fields := #[]
  methods := #[k1m0, k1m1]
  instanceTypes := #[]
  staticTypes := #[]
  resolved := Array.replicate 32 none
  statics := none }

def pool2 : Array CpInfo := pool [(1, .methodref 2 3), (0, .class_ 4), (0, .nameAndType 5 6), (0, u "java/lang/Object"), (0, u "<init>"), (0, u "()V"), (0, .class_ 8), (0, u "java/lang/Record")] 13

def k2c0 : Code := { maxStack := 1, maxLocals := 1, code := jdk_30_method_1_code, exceptionTable := #[], attributes := #[] }
def k2m0 : Method := { name := "<init>", desc := "()V", sig := { parameters := [], returnType := none }, accessFlags := 4, code := some k2c0 }
/-- java/lang/Record -/
def k2 : Class := { plain "java/lang/Record" (some 0) with
  accessFlags := 1057
  interfaces := #[]
  cf := some (fileOf pool2 7 #[] #[{ accessFlags := 4, nameIndex := 5, descriptorIndex := 6, attributes := #[] }] 1057 2 #[] #[])
  fields := #[]
  methods := #[k2m0]
  instanceTypes := #[]
  staticTypes := #[]
  resolved := Array.replicate 22 none
  statics := none }

def pool3 : Array CpInfo := pool [(1, .methodref 2 3), (0, .class_ 4), (0, .nameAndType 5 6), (0, u "java/lang/Record"), (0, u "<init>"), (0, u "()V"), (0, .fieldref 8 9), (0, .class_ 10), (0, .nameAndType 11 12), (0, u "com/example/tripleshard/tripleshard/sparql/Query"), (0, u "projection"), (0, u "Ljava/util/List;"), (0, .fieldref 8 14), (0, .nameAndType 15 12), (0, u "patterns"), (0, .fieldref 8 17), (0, .nameAndType 18 12), (0, u "filters"), (0, .fieldref 8 20), (0, .nameAndType 21 22), (0, u "distinct"), (0, u "Z"), (0, .fieldref 8 24), (0, .nameAndType 25 12), (0, u "orderBy"), (0, .fieldref 8 27), (0, .nameAndType 28 29), (0, u "offset"), (0, u "J"), (0, .fieldref 8 31), (0, .nameAndType 32 29), (0, u "limit"), (14, u "()Z"), (34, .long 9223372036854775807), (30, u "(Ljava/util/List;Ljava/util/List;Ljava/util/List;ZLjava/util/List;JJ)V"), (10, u "sliced")] 35

def k3c0 : Code := { maxStack := 3, maxLocals := 10, code := prog_81_method_1_code, exceptionTable := #[], attributes := #[] }
def k3m0 : Method := { name := "<init>", desc := "(Ljava/util/List;Ljava/util/List;Ljava/util/List;ZLjava/util/List;JJ)V", sig := { parameters := [(.object "java/util/List"), (.object "java/util/List"), (.object "java/util/List"), .boolean, (.object "java/util/List"), .long, .long], returnType := none }, accessFlags := 1, code := some k3c0 }
def k3c1 : Code := { maxStack := 4, maxLocals := 1, code := prog_81_method_4_code, exceptionTable := #[], attributes := #[] }
def k3m1 : Method := { name := "sliced", desc := "()Z", sig := { parameters := [], returnType := some .boolean }, accessFlags := 0, code := some k3c1 }
/-- com/example/tripleshard/tripleshard/sparql/Query -/
def k3 : Class := { plain "com/example/tripleshard/tripleshard/sparql/Query" (some 2) with
  accessFlags := 49
  interfaces := #[]
  cf := some (fileOf pool3 8 #[] #[{ accessFlags := 1, nameIndex := 5, descriptorIndex := 113, attributes := #[] }, { accessFlags := 0, nameIndex := 124, descriptorIndex := 47, attributes := #[] }] 49 2 #[] #[{ accessFlags := 18, nameIndex := 11, descriptorIndex := 12, attributes := #[] }, { accessFlags := 18, nameIndex := 15, descriptorIndex := 12, attributes := #[] }, { accessFlags := 18, nameIndex := 18, descriptorIndex := 12, attributes := #[] }, { accessFlags := 18, nameIndex := 21, descriptorIndex := 22, attributes := #[] }, { accessFlags := 18, nameIndex := 25, descriptorIndex := 12, attributes := #[] }, { accessFlags := 18, nameIndex := 28, descriptorIndex := 29, attributes := #[] }, { accessFlags := 18, nameIndex := 32, descriptorIndex := 29, attributes := #[] }])
  fields := #[{ name := "projection", type := (.object "java/util/List"), accessFlags := 18, slot := 0, constantValue := 0 }, { name := "patterns", type := (.object "java/util/List"), accessFlags := 18, slot := 1, constantValue := 0 }, { name := "filters", type := (.object "java/util/List"), accessFlags := 18, slot := 2, constantValue := 0 }, { name := "distinct", type := .boolean, accessFlags := 18, slot := 3, constantValue := 0 }, { name := "orderBy", type := (.object "java/util/List"), accessFlags := 18, slot := 4, constantValue := 0 }, { name := "offset", type := .long, accessFlags := 18, slot := 5, constantValue := 0 }, { name := "limit", type := .long, accessFlags := 18, slot := 6, constantValue := 0 }]
  methods := #[k3m0, k3m1]
  instanceTypes := #[(.object "java/util/List"), (.object "java/util/List"), (.object "java/util/List"), .boolean, (.object "java/util/List"), .long, .long]
  staticTypes := #[]
  resolved := Array.replicate 160 none
  statics := none }

def pool4 : Array CpInfo := pool [(8, .class_ 10), (1, u "java/lang/Iterable"), (24, .class_ 36), (0, u "java/lang/Object")] 25

/-- java/lang/Iterable -/
def k4 : Class := { plain "java/lang/Iterable" (some 0) with
  accessFlags := 1537
  interfaces := #[]
  cf := some (fileOf pool4 8 #[] #[] 1537 35 #[] #[])
  fields := #[]
  methods := #[]
  instanceTypes := #[]
  staticTypes := #[]
  resolved := Array.replicate 62 none
  statics := none }

def pool5 : Array CpInfo := pool [(10, .class_ 12), (1, u "java/util/Collection"), (47, .class_ 61), (0, u "java/lang/Object"), (0, .class_ 63), (0, u "java/lang/Iterable")] 51

/-- java/util/Collection -/
def k5 : Class := { plain "java/util/Collection" (some 0) with
  accessFlags := 1537
  interfaces := #[4]
  cf := some (fileOf pool5 10 #[] #[] 1537 60 #[62] #[])
  fields := #[]
  methods := #[]
  instanceTypes := #[]
  staticTypes := #[]
  resolved := Array.replicate 115 none
  statics := none }

def pool6 : Array CpInfo := pool [(1, .methodref 2 3), (0, .class_ 4), (0, .nameAndType 5 6), (0, u "java/lang/Object"), (0, u "<init>"), (0, u "()V"), (1, .class_ 10), (1, u "java/util/AbstractCollection"), (66, .class_ 78), (0, u "java/util/Collection")] 81

def k6c0 : Code := { maxStack := 1, maxLocals := 1, code := jdk_22_method_1_code, exceptionTable := #[], attributes := #[] }
def k6m0 : Method := { name := "<init>", desc := "()V", sig := { parameters := [], returnType := none }, accessFlags := 4, code := some k6c0 }
/-- java/util/AbstractCollection -/
def k6 : Class := { plain "java/util/AbstractCollection" (some 0) with
  accessFlags := 1057
  interfaces := #[5]
  cf := some (fileOf pool6 8 #[] #[{ accessFlags := 4, nameIndex := 5, descriptorIndex := 6, attributes := #[] }] 1057 2 #[77] #[])
  fields := #[]
  methods := #[k6m0]
  instanceTypes := #[]
  staticTypes := #[]
  resolved := Array.replicate 160 none
  statics := none }

def pool7 : Array CpInfo := pool [(8, .class_ 10), (1, u "java/util/SequencedCollection"), (15, .class_ 27), (0, u "java/lang/Object"), (0, .class_ 29), (0, u "java/util/Collection")] 27

/-- java/util/SequencedCollection -/
def k7 : Class := { plain "java/util/SequencedCollection" (some 0) with
  accessFlags := 1537
  interfaces := #[5]
  cf := some (fileOf pool7 8 #[] #[] 1537 26 #[28] #[])
  fields := #[]
  methods := #[]
  instanceTypes := #[]
  staticTypes := #[]
  resolved := Array.replicate 57 none
  statics := none }

def pool8 : Array CpInfo := pool [(8, .class_ 10), (1, u "java/util/List"), (92, .class_ 104), (0, u "java/lang/Object"), (15, .class_ 121), (0, u "java/util/SequencedCollection")] 129

/-- java/util/List -/
def k8 : Class := { plain "java/util/List" (some 0) with
  accessFlags := 1537
  interfaces := #[7]
  cf := some (fileOf pool8 8 #[] #[] 1537 103 #[120] #[])
  fields := #[]
  methods := #[]
  instanceTypes := #[]
  staticTypes := #[]
  resolved := Array.replicate 251 none
  statics := none }

def pool9 : Array CpInfo := pool [(1, .methodref 2 3), (0, .class_ 4), (0, .nameAndType 5 6), (0, u "java/util/AbstractCollection"), (0, u "<init>"), (0, u "()V"), (0, .fieldref 8 9), (0, .class_ 10), (0, .nameAndType 11 12), (0, u "java/util/AbstractList"), (0, u "modCount"), (0, u "I"), (64, .class_ 78), (0, u "java/util/AbstractList$Itr"), (3, .class_ 83), (0, u "java/util/AbstractList$ListItr"), (9, .class_ 94), (0, u "java/util/AbstractList$RandomAccessSubList"), (3, .class_ 99), (0, u "java/util/AbstractList$SubList"), (33, .class_ 134), (0, u "java/util/List"), (73, .class_ 209), (0, u "java/util/AbstractList$SubList$1"), (0, .class_ 211), (0, u "java/util/AbstractList$RandomAccessSpliterator")] 6

def k9c0 : Code := { maxStack := 2, maxLocals := 1, code := jdk_39_method_1_code, exceptionTable := #[], attributes := #[] }
def k9m0 : Method := { name := "<init>", desc := "()V", sig := { parameters := [], returnType := none }, accessFlags := 4, code := some k9c0 }
/-- java/util/AbstractList -/
def k9 : Class := { plain "java/util/AbstractList" (some 6) with
  accessFlags := 1057
  interfaces := #[8]
  cf := some (fileOf pool9 8 #[.nestMembers #[93, 98, 208, 210, 82, 77]] #[{ accessFlags := 4, nameIndex := 5, descriptorIndex := 6, attributes := #[] }] 1057 2 #[133] #[{ accessFlags := 132, nameIndex := 11, descriptorIndex := 12, attributes := #[] }])
  fields := #[{ name := "modCount", type := .int, accessFlags := 132, slot := 0, constantValue := 0 }]
  methods := #[k9m0]
  instanceTypes := #[.int]
  staticTypes := #[]
  resolved := Array.replicate 218 none
  statics := none }

def pool10 : Array CpInfo := pool [(1, .class_ 2), (0, u "java/util/RandomAccess"), (0, .class_ 4), (0, u "java/lang/Object")] 2

/-- java/util/RandomAccess -/
def k10 : Class := { plain "java/util/RandomAccess" (some 0) with
  accessFlags := 1537
  interfaces := #[]
  cf := some (fileOf pool10 1 #[] #[] 1537 3 #[] #[])
  fields := #[]
  methods := #[]
  instanceTypes := #[]
  staticTypes := #[]
  resolved := Array.replicate 7 none
  statics := none }

def pool11 : Array CpInfo := pool [(1, .class_ 2), (0, u "java/lang/Cloneable"), (0, .class_ 4), (0, u "java/lang/Object")] 2

/-- java/lang/Cloneable -/
def k11 : Class := { plain "java/lang/Cloneable" (some 0) with
  accessFlags := 1537
  interfaces := #[]
  cf := some (fileOf pool11 1 #[] #[] 1537 3 #[] #[])
  fields := #[]
  methods := #[]
  instanceTypes := #[]
  staticTypes := #[]
  resolved := Array.replicate 7 none
  statics := none }

def pool12 : Array CpInfo := pool [(1, .class_ 2), (0, u "java/io/Serializable"), (0, .class_ 4), (0, u "java/lang/Object")] 2

/-- java/io/Serializable -/
def k12 : Class := { plain "java/io/Serializable" (some 0) with
  accessFlags := 1537
  interfaces := #[]
  cf := some (fileOf pool12 1 #[] #[] 1537 3 #[] #[])
  fields := #[]
  methods := #[]
  instanceTypes := #[]
  staticTypes := #[]
  resolved := Array.replicate 7 none
  statics := none }

def pool13 : Array CpInfo := pool [(1, .methodref 2 3), (0, .class_ 4), (0, .nameAndType 5 6), (0, u "java/util/AbstractList"), (0, u "<init>"), (0, u "()V"), (2, .fieldref 10 11), (0, .class_ 12), (0, .nameAndType 13 14), (0, u "java/util/ArrayList"), (0, u "elementData"), (0, u "[Ljava/lang/Object;"), (2, u "EMPTY_ELEMENTDATA"), (21, .fieldref 10 40), (0, .nameAndType 41 14), (0, u "DEFAULTCAPACITY_EMPTY_ELEMENTDATA"), (8, u "size"), (0, u "I"), (96, .class_ 149), (0, u "java/util/List"), (112, .class_ 263), (0, u "java/util/ArrayList$ListItr"), (3, .class_ 268), (0, u "java/util/ArrayList$Itr"), (7, .class_ 277), (0, u "java/util/ArrayList$SubList"), (12, .class_ 291), (0, u "java/util/ArrayList$ArrayListSpliterator"), (37, .class_ 330), (0, u "java/util/RandomAccess"), (0, .class_ 332), (0, u "java/lang/Cloneable"), (0, .class_ 334), (0, u "java/io/Serializable"), (0, u "serialVersionUID"), (0, u "J"), (3, u "DEFAULT_CAPACITY"), (159, .class_ 501), (0, u "java/util/ArrayList$SubList$2"), (0, .class_ 503), (0, u "java/util/ArrayList$SubList$1")] 5

def k13c0 : Code := { maxStack := 2, maxLocals := 1, code := jdk_38_method_2_code, exceptionTable := #[], attributes := #[] }
def k13m0 : Method := { name := "<init>", desc := "()V", sig := { parameters := [], returnType := none }, accessFlags := 1, code := some k13c0 }
/-- java/util/ArrayList -/
def k13 : Class := { plain "java/util/ArrayList" (some 9) with
  accessFlags := 33
  interfaces := #[8, 10, 11, 12]
  cf := some (fileOf pool13 10 #[.nestMembers #[290, 276, 500, 502, 262, 267]] #[{ accessFlags := 1, nameIndex := 5, descriptorIndex := 6, attributes := #[] }] 33 2 #[148, 329, 331, 333] #[{ accessFlags := 26, nameIndex := 335, descriptorIndex := 336, attributes := #[] }, { accessFlags := 26, nameIndex := 340, descriptorIndex := 51, attributes := #[] }, { accessFlags := 26, nameIndex := 17, descriptorIndex := 14, attributes := #[] }, { accessFlags := 26, nameIndex := 41, descriptorIndex := 14, attributes := #[] }, { accessFlags := 128, nameIndex := 13, descriptorIndex := 14, attributes := #[] }, { accessFlags := 2, nameIndex := 50, descriptorIndex := 51, attributes := #[] }])
  fields := #[{ name := "serialVersionUID", type := .long, accessFlags := 26, slot := 0, constantValue := 0 }, { name := "DEFAULT_CAPACITY", type := .int, accessFlags := 26, slot := 1, constantValue := 0 }, { name := "EMPTY_ELEMENTDATA", type := (.array (.object "java/lang/Object")), accessFlags := 26, slot := 2, constantValue := 0 }, { name := "DEFAULTCAPACITY_EMPTY_ELEMENTDATA", type := (.array (.object "java/lang/Object")), accessFlags := 26, slot := 3, constantValue := 0 }, { name := "elementData", type := (.array (.object "java/lang/Object")), accessFlags := 128, slot := 1, constantValue := 0 }, { name := "size", type := .int, accessFlags := 2, slot := 2, constantValue := 0 }]
  methods := #[k13m0]
  instanceTypes := #[.int, (.array (.object "java/lang/Object")), .int]
  staticTypes := #[.long, .int, (.array (.object "java/lang/Object")), (.array (.object "java/lang/Object"))]
  resolved := Array.replicate 509 none
  statics := some 0 }

/-- the primitive byte -/
def k14 : Class := { plain "byte" none with kind := .primitive 'B', accessFlags := 0x411 }
/-- [B -/
def k15 : Class := { plain "[B" (some 0) with kind := .array 14 .byte, interfaces := #[11, 12], accessFlags := 1041 }

/-- the primitive int -/
def k16 : Class := { plain "int" none with kind := .primitive 'I', accessFlags := 0x411 }
/-- [I -/
def k17 : Class := { plain "[I" (some 0) with kind := .array 16 .int, interfaces := #[11, 12], accessFlags := 1041 }

/-- [Ljava/lang/Object; -/
def k18 : Class := { plain "[Ljava/lang/Object;" (some 0) with kind := .array 0 (.object "java/lang/Object"), interfaces := #[11, 12], accessFlags := 1041 }

def heap : Heap := #[{ cls := 13, slots := #[.long 0, .int 0, .ref 1, .ref 2], vm := .statics 13 },
  { cls := 18, slots := #[], vm := .none },
  { cls := 18, slots := #[], vm := .none }]
def classes : Array Class := #[k0, k1, k2, k3, k4, k5, k6, k7, k8, k9, k10, k11, k12, k13, k14, k15, k16, k17, k18]
def interned : List (Array UInt16 × Addr) := []
def slotsUsed : Nat := 4
def theMethod : MethodId := ⟨1, 1⟩
def args0 : Array Value := #[.long 5, .long 3, .int 3]
def aboutOver (below : List Frame) : State where
  vm := { classes := classes, interned := interned.toArray }
  heap := heap
  slotsUsed := slotsUsed
  threads := #[{ frames := .invoking theMethod args0 :: below }]
def below0 : List Frame := [.native { method := ⟨0, 0⟩, args := #[] }]
def about1 : State := aboutOver below0
def p0 : Program := .bare "" "" ""
def e0 : Env := launch0.env 0 0 0
theorem w_frames : about1.frames = Frame.invoking theMethod args0 :: below0 := rfl
set_option maxRecDepth 65536 in
theorem w_args : argsFit about1.vm theMethod args0 = true := by decide +kernel
set_option maxRecDepth 65536 in
theorem w_heap : heapFits about1 = true := by decide +kernel
set_option maxRecDepth 65536 in
theorem w_runnable : about1.curStatus? = some .runnable := by decide +kernel
set_option maxRecDepth 65536 in
theorem w_alone : about1.alone = true := by decide +kernel
set_option maxRecDepth 65536 in
theorem w_named : about1.methodNamed? x = some theMethod := by decide +kernel
set_option maxRecDepth 65536 in
theorem w_hears : about1.hears theMethod below0 = true := by decide +kernel
set_option maxRecDepth 65536 in
theorem w_ripe : about1.ripe theMethod args0 below0 = true := by decide +kernel
theorem w_running : about1.status = .running := rfl
set_option maxRecDepth 65536 in
theorem w_room : about1.hasRoom e0.platform room_1 = true :=
  launch0.hasRoom_least _ room_1 (by decide +kernel) (by decide +kernel) (by decide +kernel) (by decide +kernel) (by decide +kernel) (by decide +kernel)
theorem allAtoms_all (ts : List Jvm.Cond) (a : Array Jvm.Value) (st : Jvm.State) : (allAtoms ts).before a st = ts.all (fun c => c.before a st) := by
  induction ts with
  | nil => rfl
  | cons c t ih =>
    show (Jvm.Cond.and c (allAtoms t)).before a st = _
    rw [Jvm.Cond.before_and, ih, List.all_cons]
def words1 : List Jvm.Cond := Jvm.Cond.code x code maxLocals ret :: tables_1
/-- a 'code' word, met by the world's own term for the bytes: nothing is compared byte by byte -/
theorem code_word {y : MethodName} {bytes : ByteArray} {mx : Nat} {rt : Option FieldType} {a : Array Value} {s : State} {m : MethodId} {meth : Method} {c : Code} (h1 : s.methodNamed? y = some m) (h2 : s.vm.method? m = some meth) (h3 : meth.code = some c) (h4 : c.code = bytes)
    (h5 : (c.maxLocals == mx && c.exceptionTable.isEmpty && decide (c.maxStack ≤ mostOperands) && decide (meth.sig.returnType = rt) && !meth.locks && decide (parseMethodDescriptor y.desc = some meth.sig)) = true) : (Jvm.Cond.code y bytes mx rt).before a s = true := by
  simp only [Bool.and_eq_true, beq_iff_eq, Bool.not_eq_true', decide_eq_true_eq] at h5
  obtain ⟨⟨⟨⟨⟨g1, g2⟩, g3⟩, g4⟩, g5⟩, g6⟩ := h5
  simp [Cond.before, Cond.holds, Cond.value, h1, h2, h3, h4, g1, g2, g3, g4, g5, g6]
def isCode : Jvm.Cond → Bool
  | .code _ _ _ _ => true
  | _ => false
theorem all_split {L : List Jvm.Cond} {P : Jvm.Cond → Bool} (h1 : L.all (fun c => isCode c || P c) = true) (h2 : ∀ c ∈ L.filter isCode, P c = true) : L.all P = true := by
  refine List.all_eq_true.mpr fun c hc => ?_
  have h := List.all_eq_true.mp h1 c hc
  rcases Bool.eq_false_or_eq_true (isCode c) with hi | hi
  · exact h2 c (List.mem_filter.mpr ⟨hc, hi⟩)
  · simpa [hi] using h
set_option maxRecDepth 65536 in
theorem w_c0 : (Jvm.Cond.code x code maxLocals ret).before args0 about1 = true := code_word (m := ⟨1, 1⟩) (meth := k1m1) (c := k1c1) (by decide +kernel) rfl rfl rfl (by decide +kernel)
set_option maxRecDepth 65536 in
theorem w_c1 : (Jvm.Cond.code ({ cls := "java/util/ArrayList", name := "<init>", desc := "()V" } : Jvm.MethodName) jdk_38_method_2_code (1 : Nat) (Option.none : Option Jvm.ClassFile.FieldType)).before args0 about1 = true := code_word (m := ⟨13, 0⟩) (meth := k13m0) (c := k13c0) (by decide +kernel) rfl rfl rfl (by decide +kernel)
set_option maxRecDepth 65536 in
theorem w_c2 : (Jvm.Cond.code ({ cls := "java/util/AbstractList", name := "<init>", desc := "()V" } : Jvm.MethodName) jdk_39_method_1_code (1 : Nat) (Option.none : Option Jvm.ClassFile.FieldType)).before args0 about1 = true := code_word (m := ⟨9, 0⟩) (meth := k9m0) (c := k9c0) (by decide +kernel) rfl rfl rfl (by decide +kernel)
set_option maxRecDepth 65536 in
theorem w_c3 : (Jvm.Cond.code ({ cls := "java/util/AbstractCollection", name := "<init>", desc := "()V" } : Jvm.MethodName) jdk_22_method_1_code (1 : Nat) (Option.none : Option Jvm.ClassFile.FieldType)).before args0 about1 = true := code_word (m := ⟨6, 0⟩) (meth := k6m0) (c := k6c0) (by decide +kernel) rfl rfl rfl (by decide +kernel)
set_option maxRecDepth 65536 in
theorem w_c4 : (Jvm.Cond.code ({ cls := "java/lang/Object", name := "<init>", desc := "()V" } : Jvm.MethodName) object_method_1_code (1 : Nat) (Option.none : Option Jvm.ClassFile.FieldType)).before args0 about1 = true := code_word (m := ⟨0, 0⟩) (meth := k0m0) (c := k0c0) (by decide +kernel) rfl rfl rfl (by decide +kernel)
set_option maxRecDepth 65536 in
theorem w_c5 : (Jvm.Cond.code ({ cls := "com/example/tripleshard/tripleshard/sparql/Query", name := "<init>", desc := "(Ljava/util/List;Ljava/util/List;Ljava/util/List;ZLjava/util/List;JJ)V" } : Jvm.MethodName) prog_81_method_1_code (10 : Nat) (Option.none : Option Jvm.ClassFile.FieldType)).before args0 about1 = true := code_word (m := ⟨3, 0⟩) (meth := k3m0) (c := k3c0) (by decide +kernel) rfl rfl rfl (by decide +kernel)
set_option maxRecDepth 65536 in
theorem w_c6 : (Jvm.Cond.code ({ cls := "java/lang/Record", name := "<init>", desc := "()V" } : Jvm.MethodName) jdk_30_method_1_code (1 : Nat) (Option.none : Option Jvm.ClassFile.FieldType)).before args0 about1 = true := code_word (m := ⟨2, 0⟩) (meth := k2m0) (c := k2c0) (by decide +kernel) rfl rfl rfl (by decide +kernel)
set_option maxRecDepth 65536 in
theorem w_c7 : (Jvm.Cond.code ({ cls := "com/example/tripleshard/tripleshard/sparql/Query", name := "sliced", desc := "()Z" } : Jvm.MethodName) prog_81_method_4_code (1 : Nat) (Option.some Jvm.ClassFile.FieldType.boolean)).before args0 about1 = true := code_word (m := ⟨3, 1⟩) (meth := k3m1) (c := k3c1) (by decide +kernel) rfl rfl rfl (by decide +kernel)
def codes1 : List Jvm.Cond := [Jvm.Cond.code x code maxLocals ret, Jvm.Cond.code ({ cls := "java/util/ArrayList", name := "<init>", desc := "()V" } : Jvm.MethodName) jdk_38_method_2_code (1 : Nat) (Option.none : Option Jvm.ClassFile.FieldType), Jvm.Cond.code ({ cls := "java/util/AbstractList", name := "<init>", desc := "()V" } : Jvm.MethodName) jdk_39_method_1_code (1 : Nat) (Option.none : Option Jvm.ClassFile.FieldType), Jvm.Cond.code ({ cls := "java/util/AbstractCollection", name := "<init>", desc := "()V" } : Jvm.MethodName) jdk_22_method_1_code (1 : Nat) (Option.none : Option Jvm.ClassFile.FieldType), Jvm.Cond.code ({ cls := "java/lang/Object", name := "<init>", desc := "()V" } : Jvm.MethodName) object_method_1_code (1 : Nat) (Option.none : Option Jvm.ClassFile.FieldType), Jvm.Cond.code ({ cls := "com/example/tripleshard/tripleshard/sparql/Query", name := "<init>", desc := "(Ljava/util/List;Ljava/util/List;Ljava/util/List;ZLjava/util/List;JJ)V" } : Jvm.MethodName) prog_81_method_1_code (10 : Nat) (Option.none : Option Jvm.ClassFile.FieldType), Jvm.Cond.code ({ cls := "java/lang/Record", name := "<init>", desc := "()V" } : Jvm.MethodName) jdk_30_method_1_code (1 : Nat) (Option.none : Option Jvm.ClassFile.FieldType), Jvm.Cond.code ({ cls := "com/example/tripleshard/tripleshard/sparql/Query", name := "sliced", desc := "()Z" } : Jvm.MethodName) prog_81_method_4_code (1 : Nat) (Option.some Jvm.ClassFile.FieldType.boolean)]
set_option maxRecDepth 65536 in
theorem codes_eq : words1.filter isCode = codes1 := rfl
theorem w_codes : ∀ c ∈ words1.filter isCode, c.before args0 about1 = true := by
  rw [codes_eq]
  intro c hc
  simp only [codes1, List.mem_cons, List.not_mem_nil, or_false] at hc
  rcases hc with rfl | rfl | rfl | rfl | rfl | rfl | rfl | rfl
  · exact w_c0
  · exact w_c1
  · exact w_c2
  · exact w_c3
  · exact w_c4
  · exact w_c5
  · exact w_c6
  · exact w_c7
set_option maxRecDepth 65536 in
theorem w_t1 : (words1.take 24).all (fun c => isCode c || c.before args0 about1) = true := by decide +kernel
set_option maxRecDepth 65536 in
theorem w_t2 : ((words1.drop 24).take 24).all (fun c => isCode c || c.before args0 about1) = true := by decide +kernel
set_option maxRecDepth 65536 in
theorem w_t3 : ((words1.drop 24).drop 24).all (fun c => isCode c || c.before args0 about1) = true := by decide +kernel
theorem w_tables : (allAtoms (Jvm.Cond.code x code maxLocals ret :: tables_1)).before args0 about1 = true := by
  rw [allAtoms_all]
  show words1.all (fun c => c.before args0 about1) = true
  refine all_split ?_ w_codes
  rw [← List.take_append_drop 24 words1, List.all_append, w_t1, ← List.take_append_drop 24 (words1.drop 24), List.all_append, w_t2, w_t3]
  rfl
set_option maxRecDepth 65536 in
theorem w_rest : rest_1_c.before args0 about1 = true := by decide +kernel
set_option maxRecDepth 65536 in
theorem w_case : (Jvm.Cond.and given_1 narrow_1).before args0 about1 = true := by decide +kernel
theorem w_applies : (headSpec (Jvm.Cond.code x code maxLocals ret :: tables_1) room_1).applies x e0.platform about1 = true :=
  (Spec.applies_iff w_frames).mpr ⟨w_running, w_runnable, w_alone, w_named, w_hears, w_ripe, w_room, w_tables⟩
theorem atStart : AtStart classFile x code maxLocals ret World_1 tables_1 room_1 Calls_1 rest_1 Pre_1 launch0 p0 e0 about1 theMethod args0 below0 :=
  ⟨lists_1, trivial, launch0.admits_env _ _ _, launch0.least_env, fairChoices_fair.cas, fairChoices_fair.clock, w_frames, w_args, w_heap, w_applies, trivial, w_rest, w_case⟩
end start1
theorem witness_1 : WitnessClaimed_1 := ⟨start1.p0, start1.e0, start1.about1, start1.theMethod, start1.args0, start1.below0, start1.atStart⟩
end Jvm.Pilot.@@N@@
