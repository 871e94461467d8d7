import JvmDerived
import JvmDerived.Pilot.@@N@@Statement
import JvmDerived.Pilot.@@N@@Code
set_option linter.unusedVariables false
set_option linter.unusedSimpArgs false
namespace Jvm.RoadKit
open Sem ClassFile Op Lib Jvm.Stand Jvm.Free Jvm.LawKit
section New
variable {p : Program} {l : Launch} {e : Env} {R : Room} {s : State} {m : MethodId} {args : Array Value} {below : List Frame} {meth : Method} {c : Code} {T : State} {locs : List Loc} {cells slots : Nat}
theorem retI (X : Stand p l e R s m args below meth c T locs cells slots) (hx : p.tables.exec = Jvm.exec) {pc : Nat} {Ls : Array Slot} {z : Int32} {rest : List Value} (hret : meth.sig.returnType = some .int) (hd : decode c.code pc = .ok (.ireturn, 1)) {fs : List Frame}
    (hl : ∀ (f : JFrame) (acts : List Action), f.method = m → f.locked = none → f.entered = [] → (doReturn e (T.setTop f) acts (some (.int z))).1 = T.setFrames fs) : Steps p.tables e below (T.setTop (mkF m pc Ls (.int z :: rest))) (T.setFrames fs) := by
  have hm' : T.vm.method? m = some meth := X.method'
  have hn : narrow .int (.int z) = .int z := rfl
  show Steps p.tables e below (T.setTop { method := m, pc := pc, locals := Ls, stack := _ :: rest, locked := none }) _
  jvm_step X.here [X.here.top, hx, hd, hm', hret, hn]
  first | (intro acts; rw [hl _ acts rfl rfl rfl]) | rw [hl _ _ rfl rfl rfl]
  exact Steps.refl _
end New
end Jvm.RoadKit
namespace Jvm.Pilot.@@N@@
open Jvm Jvm.ClassFile Sem Op Lib Jvm.Free Jvm.Stand Jvm.LawKit Jvm.RoadKit Bundle Jvm.Pilot.@@N@@.Jvm.D
/-- a boolean of the law's, as the int that the machine holds -/
def bI (P : Prop) [Decidable P] : Int32 := if P then 1 else 0
theorem bI_t {P : Prop} [Decidable P] (h : P) : bI P = (1 : Int32) := if_pos h
theorem bI_f {P : Prop} [Decidable P] (h : ¬ P) : bI P = (0 : Int32) := if_neg h
theorem bI_n {P : Prop} [Decidable P] (h : P) : ¬ (bI P = (0 : Int32)) := by rw [bI_t h]; decide
theorem bI_iff {P Q : Prop} [Decidable P] [Decidable Q] (h : P ↔ Q) : bI P = bI Q := by
  by_cases p : P
  · rw [bI_t p, bI_t (h.mp p)]
  · rw [bI_f p, bI_f fun q => p (h.mpr q)]
theorem bI_nar {P : Prop} [Decidable P] : nar .boolean (bI P) = bI P := by
  by_cases p : P
  · rw [bI_t p]; rfl
  · rw [bI_f p]; rfl
theorem own_mask (x : Int64) : 0 ≤ (x &&& (9223372036854775807 : Int64)).toInt := by
  rw [c_maskL x 9223372036854775807 63 (by decide) (by decide)]
  exact Int.emod_nonneg _ (by decide)
theorem own_max : (9223372036854775807 : Int64).toInt = 9223372036854775807 := by decide
theorem own_z : (0 : Int64).toInt = 0 := by decide
theorem own_one : (1 : Int64).toInt = 1 := by decide
theorem own_bit (x : Int64) : 0 ≤ (x &&& (1 : Int64)).toInt ∧ (x &&& (1 : Int64)).toInt ≤ 1 := by
  rw [c_maskL x 1 1 (by decide) (by decide)]
  omega
theorem own_l1 (r b : Int64) : 0 ≤ (if (0 : Int64) < (r - b) then (r - b) else (0 : Int64)).toInt := by
  split
  · rename_i h; rw [Int64.lt_iff_toInt_lt, own_z] at h; omega
  · decide
theorem own_l3 (off r b : Int64) (h0 : 0 ≤ off.toInt) (hr : r = (9223372036854775807 : Int64) - off) : 0 ≤ (if r < (9223372036854775807 : Int64) then (if r < (9223372036854775806 : Int64) then ((r + (1 : Int64)) + (b &&& (1 : Int64))) else ((r + (1 : Int64)) + (0 : Int64))) else r).toInt := by
  have e6 : (9223372036854775806 : Int64).toInt = 9223372036854775806 := by decide
  have a := c_lsub (9223372036854775807 : Int64) off
  have ro := rng64 off
  have rr := rng64 r
  rw [← hr, own_max] at a
  have hb := own_bit b
  split
  · rename_i h
    rw [Int64.lt_iff_toInt_lt, own_max] at h
    have a1 := c_ladd r 1
    have r1 := rng64 (r + 1)
    rw [own_one] at a1
    split
    · rename_i h2
      rw [Int64.lt_iff_toInt_lt, e6] at h2
      have a2 := c_ladd (r + 1) (b &&& 1)
      have r2 := rng64 ((r + 1) + (b &&& 1))
      omega
    · have a2 := c_ladd (r + 1) 0
      have r2 := rng64 ((r + 1) + 0)
      rw [own_z] at a2
      omega
  · omega
theorem own_fin (off lim : Int64) (h1 : 0 ≤ off.toInt) (h2 : 0 ≤ lim.toInt) : (if (off + lim) < (0 : Int64) then (9223372036854775807 : Int64) else (off + lim)) = (if ((9223372036854775807 : Int64) - lim) < off then (9223372036854775807 : Int64) else (off + lim)) := by
  have a := c_lsub (9223372036854775807 : Int64) lim
  have b := c_ladd off lim
  have r1 := rng64 off
  have r2 := rng64 lim
  have r3 := rng64 ((9223372036854775807 : Int64) - lim)
  have r4 := rng64 (off + lim)
  rw [own_max] at a
  by_cases p : (off + lim) < (0 : Int64)
  · rw [if_pos p]
    rw [Int64.lt_iff_toInt_lt, own_z] at p
    rw [if_pos (by rw [Int64.lt_iff_toInt_lt]; omega)]
  · rw [if_neg p]
    rw [Int64.lt_iff_toInt_lt, own_z] at p
    rw [if_neg (by rw [Int64.lt_iff_toInt_lt]; omega)]
theorem d3_0 : decode jdk_22_method_1_code 0 = .ok (.aload_n 0, 1) := by decide +kernel
theorem d3_1 : decode jdk_22_method_1_code 1 = .ok (.invokespecial 1, 3) := by decide +kernel
theorem d3_4 : decode jdk_22_method_1_code 4 = .ok (.return_, 1) := by decide +kernel
theorem pn_3 : plainName "java/util/AbstractCollection" = true := by first | (simp [plainName, overriddenIn]; done) | decide +kernel
theorem ef_3 (m : MethodId) (x0 : Addr) : entryFrame m #[(.ref x0)] 1 = mkF m 0 #[.val (.ref x0)] [] := by first | (simp [entryFrame, mkF, argsToLocals, Value.category]; done) | rfl
def Q3 (Z : State) (a3_0 : Addr) (h0 : Heap) (n0 : Nat) (v : Option Value) (h : Heap) (L : List Loc) : Prop := v = none ∧ Fr n0 L ∧ h = h0
set_option maxRecDepth 65536 in
set_option maxHeartbeats 40000000 in
theorem rm3 (l : Launch) (Z : State) (a0 : Array Value) (hw : ∀ d ∈ tables_1, d.before a0 Z = true) (ws : List Jvm.Cond) (a3_0 : Addr) (h0 : Heap) (n0 : Nat) (Z0 : n0 ≤ h0.size) :
    MetFree l (⟨"java/util/AbstractCollection", "<init>", "()V"⟩ : MethodName) (head1 (Jvm.Cond.code (⟨"java/util/AbstractCollection", "<init>", "()V"⟩ : MethodName) jdk_22_method_1_code 1 none :: ws) ({ frames := 1, cells := 0, slots := 0, locals := 12 } : Room)) (fun a U => a = #[(.ref a3_0)] ∧ Z.Warmed39 U.vm ∧ U.heap = h0) (fun _ _ _ _ _ => True) (fun _ U o U' => ∃ v L, o = .returned v ∧ Q3 Z a3_0 h0 n0 v U'.heap L ∧ FrameEnd U o U' L ({ frames := 1, cells := 0, slots := 0, locals := 12 } : Room).cells ({ frames := 1, cells := 0, slots := 0, locals := 12 } : Room).slots) := by
  refine MetFree.of_bodySF (plainFor_of_name pn_3) hisR ?_
  intro p e s m args below meth c s₁ Bd hml0 hP hK
  obtain ⟨rfl, hZ, hh⟩ := hP
  have hVV : ∀ (i : Nat) (d : Jvm.Cond), tables_1[i]? = some d → d.before a0 Z = true := fun i d h => hw d (List.mem_of_getElem? h)
  have hx := Bd.exec
  have hby := Bd.bytes
  have hml : c.maxLocals = 1 := hml0
  have hown : s.vm.findClass "java/util/AbstractCollection" = some m.cls := findClass_of_methodNamed Bd.named
  have hnm := (name_of_methodNamed Bd.named Bd.method).1
  have X0 : Stand p l e ({ frames := 1, cells := 0, slots := 0, locals := 12 } : Room) s m #[(.ref a3_0)] below meth c s₁ [] 0 0 := Stand.of_body Bd
  have e0 : s₁.heap = h0 := by rw [← hh, Bd.state]; rfl
  have N0 := Fr.nil n0
  have pre0 : ∀ t, Steps p.tables e below (s₁.setTop (mkF m 0 #[.val (.ref a3_0)] [])) t → Steps p.tables e below (s₁.setTop (entryFrame m #[(.ref a3_0)] 1)) t := fun t k => castTop (ef_3 m a3_0) k
  obtain ⟨T1, X1, e1, st1⟩ := initO X0 hx hZ hown (hVV 22 _ rfl) (hVV 23 _ rfl) (hVV 24 _ rfl) e0 (g := (mkF m 1 #[.val (.ref a3_0)] [(.ref a3_0)])) rfl (by rw [hml]; rfl) rfl (hb hby d3_1) (by decide) (W := 0) (by show 2 * 0 + _ ≤ _; exact Nat.le_of_eq rfl) (by decide)
  have pre2 : ∀ t, Steps p.tables e below (T1.setTop (mkF m 4 #[.val (.ref a3_0)] [])) t → Steps p.tables e below (s₁.setTop (entryFrame m #[(.ref a3_0)] 1)) t := fun t k => pre0 t (by
    show Steps p.tables e below (s₁.setTop (mkF m 0 #[.val (.ref a3_0)] [])) _
    refine XS.aloadN X0.here hx rfl (hb hby d3_0) rfl rfl ?_
    show Steps p.tables e below (s₁.setTop (mkF m 1 #[.val (.ref a3_0)] [(.ref a3_0)])) _
    refine st1 _ ?_
    exact k)
  obtain ⟨fs, hr, hrun, hended, hW, hsame⟩ := X1.leave (v := none) (fun _ => rfl)
  refine ⟨_, _, pre2 _ ?_, hrun, hended, _, _, rfl, ?_, ⟨_, rfl⟩, hW, hsame.mono (by decide) (by decide)⟩
  · show Steps p.tables e below (T1.setTop (mkF m 4 #[.val (.ref a3_0)] [])) _
    exact X1.returnOut hx Bd.returns (hb hby d3_4) hr
  · show Q3 Z a3_0 h0 n0 _ T1.heap _
    rw [e1]
    exact ⟨rfl, N0, rfl⟩
theorem pd_0 : parseMethodDescriptor "()V" = some ⟨[], none⟩ := by decide +kernel
theorem d2_0 : decode jdk_39_method_1_code 0 = .ok (.aload_n 0, 1) := by decide +kernel
theorem d2_1 : decode jdk_39_method_1_code 1 = .ok (.invokespecial 1, 3) := by decide +kernel
theorem d2_4 : decode jdk_39_method_1_code 4 = .ok (.aload_n 0, 1) := by decide +kernel
theorem d2_5 : decode jdk_39_method_1_code 5 = .ok (.iconst 0, 1) := by decide +kernel
theorem d2_6 : decode jdk_39_method_1_code 6 = .ok (.putfield 7, 3) := by decide +kernel
theorem d2_9 : decode jdk_39_method_1_code 9 = .ok (.return_, 1) := by decide +kernel
theorem pn_2 : plainName "java/util/AbstractList" = true := by first | (simp [plainName, overriddenIn]; done) | decide +kernel
theorem ef_2 (m : MethodId) (x0 : Addr) : entryFrame m #[(.ref x0)] 1 = mkF m 0 #[.val (.ref x0)] [] := by first | (simp [entryFrame, mkF, argsToLocals, Value.category]; done) | rfl
def Q2 (Z : State) (a2_0 : Addr) (w2_modCount_a2_0 : Int32) (w2_elementData_a2_0 : Value) (h0 : Heap) (n0 : Nat) (v : Option Value) (h : Heap) (L : List Loc) : Prop := v = none ∧ Fr n0 L ∧ Keep h0 h [a2_0] ∧ Exa Z h a2_0 "java/util/ArrayList" ∧ Fld Z h a2_0 "java/util/ArrayList" "elementData" "[Ljava/lang/Object;" w2_elementData_a2_0 ∧ Fld Z h a2_0 "java/util/AbstractList" "modCount" "I" (.int (0 : Int32))
set_option maxRecDepth 65536 in
set_option maxHeartbeats 40000000 in
theorem rm2 (l : Launch) (Z : State) (a0 : Array Value) (hw : ∀ d ∈ tables_1, d.before a0 Z = true) (ws : List Jvm.Cond) (a2_0 : Addr) (w2_modCount_a2_0 : Int32) (w2_elementData_a2_0 : Value) (h0 : Heap) (n0 : Nat) (Z0 : n0 ≤ h0.size) (E_a2_0 : Exa Z h0 a2_0 "java/util/ArrayList") (F_modCount_a2_0 : Fld Z h0 a2_0 "java/util/AbstractList" "modCount" "I" (.int w2_modCount_a2_0)) (F_elementData_a2_0 : Fld Z h0 a2_0 "java/util/ArrayList" "elementData" "[Ljava/lang/Object;" w2_elementData_a2_0) (g_a2_0 : n0 ≤ a2_0) :
    MetFree l (⟨"java/util/AbstractList", "<init>", "()V"⟩ : MethodName) (head1 (Jvm.Cond.code (⟨"java/util/AbstractList", "<init>", "()V"⟩ : MethodName) jdk_39_method_1_code 1 none :: ws) ({ frames := 2, cells := 0, slots := 0, locals := 24 } : Room)) (fun a U => a = #[(.ref a2_0)] ∧ Z.Warmed39 U.vm ∧ U.heap = h0) (fun _ _ _ _ _ => True) (fun _ U o U' => ∃ v L, o = .returned v ∧ Q2 Z a2_0 w2_modCount_a2_0 w2_elementData_a2_0 h0 n0 v U'.heap L ∧ FrameEnd U o U' L ({ frames := 2, cells := 0, slots := 0, locals := 24 } : Room).cells ({ frames := 2, cells := 0, slots := 0, locals := 24 } : Room).slots) := by
  refine MetFree.of_bodySF (plainFor_of_name pn_2) hisR ?_
  intro p e s m args below meth c s₁ Bd hml0 hP hK
  obtain ⟨rfl, hZ, hh⟩ := hP
  have hVV : ∀ (i : Nat) (d : Jvm.Cond), tables_1[i]? = some d → d.before a0 Z = true := fun i d h => hw d (List.mem_of_getElem? h)
  have hx := Bd.exec
  have hby := Bd.bytes
  have hml : c.maxLocals = 1 := hml0
  have hown : s.vm.findClass "java/util/AbstractList" = some m.cls := findClass_of_methodNamed Bd.named
  have hnm := (name_of_methodNamed Bd.named Bd.method).1
  have X0 : Stand p l e ({ frames := 2, cells := 0, slots := 0, locals := 24 } : Room) s m #[(.ref a2_0)] below meth c s₁ [] 0 0 := Stand.of_body Bd
  have e0 : s₁.heap = h0 := by rw [← hh, Bd.state]; rfl
  have N0 := Fr.nil n0
  have pre0 : ∀ t, Steps p.tables e below (s₁.setTop (mkF m 0 #[.val (.ref a2_0)] [])) t → Steps p.tables e below (s₁.setTop (entryFrame m #[(.ref a2_0)] 1)) t := fun t k => castTop (ef_2 m a2_0) k
  obtain ⟨_, _, ⟨T1, L1, k1, n1⟩, -, X1, ⟨Lc1, hQ1, l1, y1, z1⟩, st1⟩ := X0.specialBack hx (y := (⟨"java/util/AbstractCollection", "<init>", "()V"⟩ : MethodName)) rfl hown (mvT hZ (hVV 16 _ rfl)) (mvT hZ (hVV 17 _ rfl)) (mvT hZ (hVV 21 _ rfl)) (by decide) (backOf (W := 0) (rm3 l Z a0 hw [] a2_0 h0 n0 Z0 ) hZ (hVV 21 _ rfl) (hVV 20 _ rfl) (by decide) (by decide)) (g := (mkF m 1 #[.val (.ref a2_0)] [(.ref a2_0)])) rfl (by rw [hml]; rfl) (Steps.refl _) (a := a2_0) (argsL := []) (rest := []) (lenOf pd_0 rfl) rfl (by show 2 * 0 + _ ≤ _; exact Nat.le_of_eq rfl) (hb hby d2_1) (fun _ _ => ⟨rfl, e0, (by decide : 0 + 0 ≤ _), (by decide : 0 + 0 ≤ _)⟩)
  dsimp only [Pt.U, Pt.locs, Pt.cells, Pt.slots] at X1 l1 y1 z1 st1 hQ1
  subst l1 y1 z1
  obtain ⟨rfl, N1q, e1⟩ := hQ1
  have N2 := Fr.app N0 N1q
  have pre3 : ∀ t, Steps p.tables e below (T1.setTop (mkF m 4 #[.val (.ref a2_0)] [])) t → Steps p.tables e below (s₁.setTop (entryFrame m #[(.ref a2_0)] 1)) t := fun t k => pre0 t (by
    show Steps p.tables e below (s₁.setTop (mkF m 0 #[.val (.ref a2_0)] [])) _
    refine XS.aloadN X0.here hx rfl (hb hby d2_0) rfl rfl ?_
    show Steps p.tables e below (s₁.setTop (mkF m 1 #[.val (.ref a2_0)] [(.ref a2_0)])) _
    refine st1.trans ?_
    exact k)
  obtain ⟨T4, h4, X4, e4, W4, st4⟩ := putF X1 hx hZ hown (host := "") (Or.inl (hVV 25 _ rfl)) Via.refl e1 F_modCount_a2_0 E_a2_0 (Or.inl (hVV 26 _ rfl)) (hVV 5 _ rfl) (ty := .int) (by decide) rfl rfl (g := (mkF m 6 #[.val (.ref a2_0)] [(.int (0 : Int32)), (.ref a2_0)])) rfl rfl (hb hby d2_6)
  have pre5 : ∀ t, Steps p.tables e below (T4.setTop (mkF m 9 #[.val (.ref a2_0)] [])) t → Steps p.tables e below (s₁.setTop (entryFrame m #[(.ref a2_0)] 1)) t := fun t k => pre3 t (by
    show Steps p.tables e below (T1.setTop (mkF m 4 #[.val (.ref a2_0)] [])) _
    refine XS.aloadN X1.here hx rfl (hb hby d2_4) rfl rfl ?_
    show Steps p.tables e below (T1.setTop (mkF m 5 #[.val (.ref a2_0)] [(.ref a2_0)])) _
    refine XS.iconst X1.here hx rfl (hb hby d2_5) ?_
    show Steps p.tables e below (T1.setTop (mkF m 6 #[.val (.ref a2_0)] [(.int (0 : Int32)), (.ref a2_0)])) _
    refine st4 _ ?_
    exact k)
  have f6 := E_a2_0.wr W4
  have f7 := F_elementData_a2_0.other W4 (Or.inr (slot_ne (Or.inl (hVV 29 _ rfl)) (Or.inl (hVV 26 _ rfl)) (by decide) (t := (.array (.object "java/lang/Object"))) (t' := .int) (by decide) (by decide)))
  have z8 := Nat.le_trans Z0 (Keep.of_wr W4).1
  have k9 := (Keep.refl h0 [a2_0]).wr W4 (Or.inl (List.mem_of_getElem? (i := 0) rfl))
  have f10 := F_modCount_a2_0.same W4
  have N11 := Fr.snoc X4 N2 g_a2_0
  obtain ⟨fs, hr, hrun, hended, hW, hsame⟩ := X4.leave (v := none) (fun _ => rfl)
  refine ⟨_, _, pre5 _ ?_, hrun, hended, _, _, rfl, ?_, ⟨_, rfl⟩, hW, hsame.mono (by decide) (by decide)⟩
  · show Steps p.tables e below (T4.setTop (mkF m 9 #[.val (.ref a2_0)] [])) _
    exact X4.returnOut hx Bd.returns (hb hby d2_9) hr
  · show Q2 Z a2_0 w2_modCount_a2_0 w2_elementData_a2_0 h0 n0 _ T4.heap _
    rw [e4]
    exact ⟨rfl, N11, k9, f6, f7, f10⟩
theorem d1_0 : decode jdk_38_method_2_code 0 = .ok (.aload_n 0, 1) := by decide +kernel
theorem d1_1 : decode jdk_38_method_2_code 1 = .ok (.invokespecial 1, 3) := by decide +kernel
theorem d1_4 : decode jdk_38_method_2_code 4 = .ok (.aload_n 0, 1) := by decide +kernel
theorem d1_5 : decode jdk_38_method_2_code 5 = .ok (.getstatic 39, 3) := by decide +kernel
theorem d1_8 : decode jdk_38_method_2_code 8 = .ok (.putfield 9, 3) := by decide +kernel
theorem d1_11 : decode jdk_38_method_2_code 11 = .ok (.return_, 1) := by decide +kernel
theorem pn_1 : plainName "java/util/ArrayList" = true := by first | (simp [plainName, overriddenIn]; done) | decide +kernel
theorem ef_1 (m : MethodId) (x0 : Addr) : entryFrame m #[(.ref x0)] 1 = mkF m 0 #[.val (.ref x0)] [] := by first | (simp [entryFrame, mkF, argsToLocals, Value.category]; done) | rfl
def Q1 (Z : State) (a1_0 : Addr) (w1_modCount_a1_0 : Int32) (w1_elementData_a1_0 : Value) (w1_DEFAULTCAPACITY_EMPTY_ELEMENTDATA : Addr) (h0 : Heap) (n0 : Nat) (v : Option Value) (h : Heap) (L : List Loc) : Prop := v = none ∧ Fr n0 L ∧ Keep h0 h [a1_0] ∧ Exa Z h a1_0 "java/util/ArrayList" ∧ Fld Z h a1_0 "java/util/AbstractList" "modCount" "I" (.int (0 : Int32)) ∧ Fld Z h a1_0 "java/util/ArrayList" "elementData" "[Ljava/lang/Object;" (.ref w1_DEFAULTCAPACITY_EMPTY_ELEMENTDATA)
set_option maxRecDepth 65536 in
set_option maxHeartbeats 40000000 in
theorem rm1 (l : Launch) (Z : State) (a0 : Array Value) (hw : ∀ d ∈ tables_1, d.before a0 Z = true) (ws : List Jvm.Cond) (a1_0 : Addr) (w1_modCount_a1_0 : Int32) (w1_elementData_a1_0 : Value) (w1_DEFAULTCAPACITY_EMPTY_ELEMENTDATA : Addr) (h0 : Heap) (n0 : Nat) (Z0 : n0 ≤ h0.size) (O0 : Old Z n0 h0) (E_a1_0 : Exa Z h0 a1_0 "java/util/ArrayList") (F_modCount_a1_0 : Fld Z h0 a1_0 "java/util/AbstractList" "modCount" "I" (.int w1_modCount_a1_0)) (F_elementData_a1_0 : Fld Z h0 a1_0 "java/util/ArrayList" "elementData" "[Ljava/lang/Object;" w1_elementData_a1_0) (g_a1_0 : n0 ≤ a1_0) (S_DEFAULTCAPACITY_EMPTY_ELEMENTDATA : Sta Z Z.heap "java/util/ArrayList" "DEFAULTCAPACITY_EMPTY_ELEMENTDATA" "[Ljava/lang/Object;" (.ref w1_DEFAULTCAPACITY_EMPTY_ELEMENTDATA)) :
    MetFree l (⟨"java/util/ArrayList", "<init>", "()V"⟩ : MethodName) (head1 (Jvm.Cond.code (⟨"java/util/ArrayList", "<init>", "()V"⟩ : MethodName) jdk_38_method_2_code 1 none :: ws) ({ frames := 3, cells := 0, slots := 0, locals := 36 } : Room)) (fun a U => a = #[(.ref a1_0)] ∧ Z.Warmed39 U.vm ∧ U.heap = h0) (fun _ _ _ _ _ => True) (fun _ U o U' => ∃ v L, o = .returned v ∧ Q1 Z a1_0 w1_modCount_a1_0 w1_elementData_a1_0 w1_DEFAULTCAPACITY_EMPTY_ELEMENTDATA h0 n0 v U'.heap L ∧ FrameEnd U o U' L ({ frames := 3, cells := 0, slots := 0, locals := 36 } : Room).cells ({ frames := 3, cells := 0, slots := 0, locals := 36 } : Room).slots) := by
  refine MetFree.of_bodySF (plainFor_of_name pn_1) hisR ?_
  intro p e s m args below meth c s₁ Bd hml0 hP hK
  obtain ⟨rfl, hZ, hh⟩ := hP
  have hVV : ∀ (i : Nat) (d : Jvm.Cond), tables_1[i]? = some d → d.before a0 Z = true := fun i d h => hw d (List.mem_of_getElem? h)
  have hx := Bd.exec
  have hby := Bd.bytes
  have hml : c.maxLocals = 1 := hml0
  have hown : s.vm.findClass "java/util/ArrayList" = some m.cls := findClass_of_methodNamed Bd.named
  have hnm := (name_of_methodNamed Bd.named Bd.method).1
  have X0 : Stand p l e ({ frames := 3, cells := 0, slots := 0, locals := 36 } : Room) s m #[(.ref a1_0)] below meth c s₁ [] 0 0 := Stand.of_body Bd
  have e0 : s₁.heap = h0 := by rw [← hh, Bd.state]; rfl
  have N0 := Fr.nil n0
  have pre0 : ∀ t, Steps p.tables e below (s₁.setTop (mkF m 0 #[.val (.ref a1_0)] [])) t → Steps p.tables e below (s₁.setTop (entryFrame m #[(.ref a1_0)] 1)) t := fun t k => castTop (ef_1 m a1_0) k
  obtain ⟨_, _, ⟨T1, L1, k1, n1⟩, -, X1, ⟨Lc1, hQ1, l1, y1, z1⟩, st1⟩ := X0.specialBack hx (y := (⟨"java/util/AbstractList", "<init>", "()V"⟩ : MethodName)) rfl hown (mvT hZ (hVV 10 _ rfl)) (mvT hZ (hVV 11 _ rfl)) (mvT hZ (hVV 15 _ rfl)) (by decide) (backOf (W := 0) (rm2 l Z a0 hw [] a1_0 w1_modCount_a1_0 w1_elementData_a1_0 h0 n0 Z0 E_a1_0 F_modCount_a1_0 F_elementData_a1_0 g_a1_0) hZ (hVV 15 _ rfl) (hVV 14 _ rfl) (by decide) (by decide)) (g := (mkF m 1 #[.val (.ref a1_0)] [(.ref a1_0)])) rfl (by rw [hml]; rfl) (Steps.refl _) (a := a1_0) (argsL := []) (rest := []) (lenOf pd_0 rfl) rfl (by show 2 * 0 + _ ≤ _; exact Nat.le_of_eq rfl) (hb hby d1_1) (fun _ _ => ⟨rfl, e0, (by decide : 0 + 0 ≤ _), (by decide : 0 + 0 ≤ _)⟩)
  dsimp only [Pt.U, Pt.locs, Pt.cells, Pt.slots] at X1 l1 y1 z1 st1 hQ1
  subst l1 y1 z1
  obtain ⟨rfl, N1q, K1, r1_0, r1_1, r1_2⟩ := hQ1
  have N2 := Fr.app N0 N1q
  have pre3 : ∀ t, Steps p.tables e below (T1.setTop (mkF m 4 #[.val (.ref a1_0)] [])) t → Steps p.tables e below (s₁.setTop (entryFrame m #[(.ref a1_0)] 1)) t := fun t k => pre0 t (by
    show Steps p.tables e below (s₁.setTop (mkF m 0 #[.val (.ref a1_0)] [])) _
    refine XS.aloadN X0.here hx rfl (hb hby d1_0) rfl rfl ?_
    show Steps p.tables e below (s₁.setTop (mkF m 1 #[.val (.ref a1_0)] [(.ref a1_0)])) _
    refine st1.trans ?_
    exact k)
  have f4 := E_a1_0.keep K1
  have z5 := Nat.le_trans Z0 K1.1
  have k6 := (Keep.refl h0 [a1_0]).trans K1 (allS (Or.inl (List.mem_of_getElem? (i := 0) rfl)) all0)
  have o7 := O0.keep K1 (allS g_a1_0 all0)
  obtain ⟨T8, X8, e8, st8⟩ := getS2 X1 hx hZ hown (host := "") (Or.inl (hVV 27 _ rfl)) Via.refl rfl (S_DEFAULTCAPACITY_EMPTY_ELEMENTDATA.ext o7.2) (g := (mkF m 5 #[.val (.ref a1_0)] [(.ref a1_0)])) rfl (hb hby d1_5)
  have pre9 : ∀ t, Steps p.tables e below (T8.setTop (mkF m 8 #[.val (.ref a1_0)] [(.ref w1_DEFAULTCAPACITY_EMPTY_ELEMENTDATA), (.ref a1_0)])) t → Steps p.tables e below (s₁.setTop (entryFrame m #[(.ref a1_0)] 1)) t := fun t k => pre3 t (by
    show Steps p.tables e below (T1.setTop (mkF m 4 #[.val (.ref a1_0)] [])) _
    refine XS.aloadN X1.here hx rfl (hb hby d1_4) rfl rfl ?_
    show Steps p.tables e below (T1.setTop (mkF m 5 #[.val (.ref a1_0)] [(.ref a1_0)])) _
    refine st8 _ ?_
    exact k)
  obtain ⟨T10, h10, X10, e10, W10, st10⟩ := putF X8 hx hZ hown (host := "") (Or.inl (hVV 28 _ rfl)) Via.refl e8 r1_1 r1_0 (Or.inl (hVV 29 _ rfl)) (hVV 5 _ rfl) (ty := (.array (.object "java/lang/Object"))) (by decide) rfl rfl (g := (mkF m 8 #[.val (.ref a1_0)] [(.ref w1_DEFAULTCAPACITY_EMPTY_ELEMENTDATA), (.ref a1_0)])) rfl rfl (hb hby d1_8)
  have pre11 : ∀ t, Steps p.tables e below (T10.setTop (mkF m 11 #[.val (.ref a1_0)] [])) t → Steps p.tables e below (s₁.setTop (entryFrame m #[(.ref a1_0)] 1)) t := fun t k => pre9 t (by
    show Steps p.tables e below (T8.setTop (mkF m 8 #[.val (.ref a1_0)] [(.ref w1_DEFAULTCAPACITY_EMPTY_ELEMENTDATA), (.ref a1_0)])) _
    refine st10 _ ?_
    exact k)
  have f12 := r1_0.wr W10
  have f13 := r1_2.other W10 (Or.inr (slot_ne (Or.inl (hVV 26 _ rfl)) (Or.inl (hVV 29 _ rfl)) (by decide) (t := .int) (t' := (.array (.object "java/lang/Object"))) (by decide) (by decide)))
  have z14 := Nat.le_trans z5 (Keep.of_wr W10).1
  have k15 := k6.wr W10 (Or.inl (List.mem_of_getElem? (i := 0) rfl))
  have o16 := o7.wr W10 g_a1_0
  have f17 := r1_1.same W10
  have N18 := Fr.snoc X10 N2 g_a1_0
  obtain ⟨fs, hr, hrun, hended, hW, hsame⟩ := X10.leave (v := none) (fun _ => rfl)
  refine ⟨_, _, pre11 _ ?_, hrun, hended, _, _, rfl, ?_, ⟨_, rfl⟩, hW, hsame.mono (by decide) (by decide)⟩
  · show Steps p.tables e below (T10.setTop (mkF m 11 #[.val (.ref a1_0)] [])) _
    exact X10.returnOut hx Bd.returns (hb hby d1_11) hr
  · show Q1 Z a1_0 w1_modCount_a1_0 w1_elementData_a1_0 w1_DEFAULTCAPACITY_EMPTY_ELEMENTDATA h0 n0 _ T10.heap _
    rw [e10]
    exact ⟨rfl, N18, k15, f12, f13, f17⟩
theorem d6_0 : decode jdk_30_method_1_code 0 = .ok (.aload_n 0, 1) := by decide +kernel
theorem d6_1 : decode jdk_30_method_1_code 1 = .ok (.invokespecial 1, 3) := by decide +kernel
theorem d6_4 : decode jdk_30_method_1_code 4 = .ok (.return_, 1) := by decide +kernel
theorem pn_6 : plainName "java/lang/Record" = true := by first | (simp [plainName, overriddenIn]; done) | decide +kernel
theorem ef_6 (m : MethodId) (x0 : Addr) : entryFrame m #[(.ref x0)] 1 = mkF m 0 #[.val (.ref x0)] [] := by first | (simp [entryFrame, mkF, argsToLocals, Value.category]; done) | rfl
def Q6 (Z : State) (a6_0 : Addr) (h0 : Heap) (n0 : Nat) (v : Option Value) (h : Heap) (L : List Loc) : Prop := v = none ∧ Fr n0 L ∧ h = h0
set_option maxRecDepth 65536 in
set_option maxHeartbeats 40000000 in
theorem rm6 (l : Launch) (Z : State) (a0 : Array Value) (hw : ∀ d ∈ tables_1, d.before a0 Z = true) (ws : List Jvm.Cond) (a6_0 : Addr) (h0 : Heap) (n0 : Nat) (Z0 : n0 ≤ h0.size) :
    MetFree l (⟨"java/lang/Record", "<init>", "()V"⟩ : MethodName) (head1 (Jvm.Cond.code (⟨"java/lang/Record", "<init>", "()V"⟩ : MethodName) jdk_30_method_1_code 1 none :: ws) ({ frames := 1, cells := 0, slots := 0, locals := 12 } : Room)) (fun a U => a = #[(.ref a6_0)] ∧ Z.Warmed39 U.vm ∧ U.heap = h0) (fun _ _ _ _ _ => True) (fun _ U o U' => ∃ v L, o = .returned v ∧ Q6 Z a6_0 h0 n0 v U'.heap L ∧ FrameEnd U o U' L ({ frames := 1, cells := 0, slots := 0, locals := 12 } : Room).cells ({ frames := 1, cells := 0, slots := 0, locals := 12 } : Room).slots) := by
  refine MetFree.of_bodySF (plainFor_of_name pn_6) hisR ?_
  intro p e s m args below meth c s₁ Bd hml0 hP hK
  obtain ⟨rfl, hZ, hh⟩ := hP
  have hVV : ∀ (i : Nat) (d : Jvm.Cond), tables_1[i]? = some d → d.before a0 Z = true := fun i d h => hw d (List.mem_of_getElem? h)
  have hx := Bd.exec
  have hby := Bd.bytes
  have hml : c.maxLocals = 1 := hml0
  have hown : s.vm.findClass "java/lang/Record" = some m.cls := findClass_of_methodNamed Bd.named
  have hnm := (name_of_methodNamed Bd.named Bd.method).1
  have X0 : Stand p l e ({ frames := 1, cells := 0, slots := 0, locals := 12 } : Room) s m #[(.ref a6_0)] below meth c s₁ [] 0 0 := Stand.of_body Bd
  have e0 : s₁.heap = h0 := by rw [← hh, Bd.state]; rfl
  have N0 := Fr.nil n0
  have pre0 : ∀ t, Steps p.tables e below (s₁.setTop (mkF m 0 #[.val (.ref a6_0)] [])) t → Steps p.tables e below (s₁.setTop (entryFrame m #[(.ref a6_0)] 1)) t := fun t k => castTop (ef_6 m a6_0) k
  obtain ⟨T1, X1, e1, st1⟩ := initO X0 hx hZ hown (hVV 38 _ rfl) (hVV 23 _ rfl) (hVV 24 _ rfl) e0 (g := (mkF m 1 #[.val (.ref a6_0)] [(.ref a6_0)])) rfl (by rw [hml]; rfl) rfl (hb hby d6_1) (by decide) (W := 0) (by show 2 * 0 + _ ≤ _; exact Nat.le_of_eq rfl) (by decide)
  have pre2 : ∀ t, Steps p.tables e below (T1.setTop (mkF m 4 #[.val (.ref a6_0)] [])) t → Steps p.tables e below (s₁.setTop (entryFrame m #[(.ref a6_0)] 1)) t := fun t k => pre0 t (by
    show Steps p.tables e below (s₁.setTop (mkF m 0 #[.val (.ref a6_0)] [])) _
    refine XS.aloadN X0.here hx rfl (hb hby d6_0) rfl rfl ?_
    show Steps p.tables e below (s₁.setTop (mkF m 1 #[.val (.ref a6_0)] [(.ref a6_0)])) _
    refine st1 _ ?_
    exact k)
  obtain ⟨fs, hr, hrun, hended, hW, hsame⟩ := X1.leave (v := none) (fun _ => rfl)
  refine ⟨_, _, pre2 _ ?_, hrun, hended, _, _, rfl, ?_, ⟨_, rfl⟩, hW, hsame.mono (by decide) (by decide)⟩
  · show Steps p.tables e below (T1.setTop (mkF m 4 #[.val (.ref a6_0)] [])) _
    exact X1.returnOut hx Bd.returns (hb hby d6_4) hr
  · show Q6 Z a6_0 h0 n0 _ T1.heap _
    rw [e1]
    exact ⟨rfl, N0, rfl⟩
theorem d5_0 : decode prog_81_method_1_code 0 = .ok (.aload_n 0, 1) := by decide +kernel
theorem d5_1 : decode prog_81_method_1_code 1 = .ok (.invokespecial 1, 3) := by decide +kernel
theorem d5_4 : decode prog_81_method_1_code 4 = .ok (.aload_n 0, 1) := by decide +kernel
theorem d5_5 : decode prog_81_method_1_code 5 = .ok (.aload_n 1, 1) := by decide +kernel
theorem d5_6 : decode prog_81_method_1_code 6 = .ok (.putfield 7, 3) := by decide +kernel
theorem d5_9 : decode prog_81_method_1_code 9 = .ok (.aload_n 0, 1) := by decide +kernel
theorem d5_10 : decode prog_81_method_1_code 10 = .ok (.aload_n 2, 1) := by decide +kernel
theorem d5_11 : decode prog_81_method_1_code 11 = .ok (.putfield 13, 3) := by decide +kernel
theorem d5_14 : decode prog_81_method_1_code 14 = .ok (.aload_n 0, 1) := by decide +kernel
theorem d5_15 : decode prog_81_method_1_code 15 = .ok (.aload_n 3, 1) := by decide +kernel
theorem d5_16 : decode prog_81_method_1_code 16 = .ok (.putfield 16, 3) := by decide +kernel
theorem d5_19 : decode prog_81_method_1_code 19 = .ok (.aload_n 0, 1) := by decide +kernel
theorem d5_20 : decode prog_81_method_1_code 20 = .ok (.iload 4, 2) := by decide +kernel
theorem d5_22 : decode prog_81_method_1_code 22 = .ok (.putfield 19, 3) := by decide +kernel
theorem d5_25 : decode prog_81_method_1_code 25 = .ok (.aload_n 0, 1) := by decide +kernel
theorem d5_26 : decode prog_81_method_1_code 26 = .ok (.aload 5, 2) := by decide +kernel
theorem d5_28 : decode prog_81_method_1_code 28 = .ok (.putfield 23, 3) := by decide +kernel
theorem d5_31 : decode prog_81_method_1_code 31 = .ok (.aload_n 0, 1) := by decide +kernel
theorem d5_32 : decode prog_81_method_1_code 32 = .ok (.lload 6, 2) := by decide +kernel
theorem d5_34 : decode prog_81_method_1_code 34 = .ok (.putfield 26, 3) := by decide +kernel
theorem d5_37 : decode prog_81_method_1_code 37 = .ok (.aload_n 0, 1) := by decide +kernel
theorem d5_38 : decode prog_81_method_1_code 38 = .ok (.lload 8, 2) := by decide +kernel
theorem d5_40 : decode prog_81_method_1_code 40 = .ok (.putfield 30, 3) := by decide +kernel
theorem d5_43 : decode prog_81_method_1_code 43 = .ok (.return_, 1) := by decide +kernel
theorem pn_5 : plainName "com/example/tripleshard/tripleshard/sparql/Query" = true := by first | (simp [plainName, overriddenIn]; done) | decide +kernel
theorem ef_5 (m : MethodId) (x0 : Addr) (x1 : Addr) (x2 : Addr) (x3 : Addr) (x4 : Int32) (x5 : Addr) (x6 : Int64) (x7 : Int64) : entryFrame m #[(.ref x0), (.ref x1), (.ref x2), (.ref x3), (.int x4), (.ref x5), (.long x6), (.long x7)] 10 = mkF m 0 #[.val (.ref x0), .val (.ref x1), .val (.ref x2), .val (.ref x3), .val (.int x4), .val (.ref x5), .val (.long x6), .second, .val (.long x7), .second] [] := by first | (simp [entryFrame, mkF, argsToLocals, Value.category]; done) | rfl
def Q5 (Z : State) (a5_0 : Addr) (a5_1 : Addr) (a5_2 : Addr) (a5_3 : Addr) (p5_4 : Int32) (a5_5 : Addr) (q5_6 : Int64) (q5_7 : Int64) (w5_projection_a5_0 : Value) (w5_patterns_a5_0 : Value) (w5_filters_a5_0 : Value) (w5_distinct_a5_0 : Int32) (w5_orderBy_a5_0 : Value) (w5_offset_a5_0 : Int64) (w5_limit_a5_0 : Int64) (h0 : Heap) (n0 : Nat) (v : Option Value) (h : Heap) (L : List Loc) : Prop := v = none ∧ Fr n0 L ∧ Keep h0 h [a5_0] ∧ Exa Z h a5_0 "com/example/tripleshard/tripleshard/sparql/Query" ∧ Fld Z h a5_0 "com/example/tripleshard/tripleshard/sparql/Query" "projection" "Ljava/util/List;" (.ref a5_1) ∧ Fld Z h a5_0 "com/example/tripleshard/tripleshard/sparql/Query" "patterns" "Ljava/util/List;" (.ref a5_2) ∧ Fld Z h a5_0 "com/example/tripleshard/tripleshard/sparql/Query" "filters" "Ljava/util/List;" (.ref a5_3) ∧ Fld Z h a5_0 "com/example/tripleshard/tripleshard/sparql/Query" "distinct" "Z" (.int (nar .boolean p5_4)) ∧ Fld Z h a5_0 "com/example/tripleshard/tripleshard/sparql/Query" "orderBy" "Ljava/util/List;" (.ref a5_5) ∧ Fld Z h a5_0 "com/example/tripleshard/tripleshard/sparql/Query" "offset" "J" (.long q5_6) ∧ Fld Z h a5_0 "com/example/tripleshard/tripleshard/sparql/Query" "limit" "J" (.long q5_7)
set_option maxRecDepth 65536 in
set_option maxHeartbeats 40000000 in
theorem rm5 (l : Launch) (Z : State) (a0 : Array Value) (hw : ∀ d ∈ tables_1, d.before a0 Z = true) (ws : List Jvm.Cond) (a5_0 : Addr) (a5_1 : Addr) (a5_2 : Addr) (a5_3 : Addr) (p5_4 : Int32) (a5_5 : Addr) (q5_6 : Int64) (q5_7 : Int64) (w5_projection_a5_0 : Value) (w5_patterns_a5_0 : Value) (w5_filters_a5_0 : Value) (w5_distinct_a5_0 : Int32) (w5_orderBy_a5_0 : Value) (w5_offset_a5_0 : Int64) (w5_limit_a5_0 : Int64) (h0 : Heap) (n0 : Nat) (Z0 : n0 ≤ h0.size) (E_a5_0 : Exa Z h0 a5_0 "com/example/tripleshard/tripleshard/sparql/Query") (F_projection_a5_0 : Fld Z h0 a5_0 "com/example/tripleshard/tripleshard/sparql/Query" "projection" "Ljava/util/List;" w5_projection_a5_0) (F_patterns_a5_0 : Fld Z h0 a5_0 "com/example/tripleshard/tripleshard/sparql/Query" "patterns" "Ljava/util/List;" w5_patterns_a5_0) (F_filters_a5_0 : Fld Z h0 a5_0 "com/example/tripleshard/tripleshard/sparql/Query" "filters" "Ljava/util/List;" w5_filters_a5_0) (F_distinct_a5_0 : Fld Z h0 a5_0 "com/example/tripleshard/tripleshard/sparql/Query" "distinct" "Z" (.int w5_distinct_a5_0)) (F_orderBy_a5_0 : Fld Z h0 a5_0 "com/example/tripleshard/tripleshard/sparql/Query" "orderBy" "Ljava/util/List;" w5_orderBy_a5_0) (F_offset_a5_0 : Fld Z h0 a5_0 "com/example/tripleshard/tripleshard/sparql/Query" "offset" "J" (.long w5_offset_a5_0)) (F_limit_a5_0 : Fld Z h0 a5_0 "com/example/tripleshard/tripleshard/sparql/Query" "limit" "J" (.long w5_limit_a5_0)) (g_a5_0 : n0 ≤ a5_0) :
    MetFree l (⟨"com/example/tripleshard/tripleshard/sparql/Query", "<init>", "(Ljava/util/List;Ljava/util/List;Ljava/util/List;ZLjava/util/List;JJ)V"⟩ : MethodName) (head1 (Jvm.Cond.code (⟨"com/example/tripleshard/tripleshard/sparql/Query", "<init>", "(Ljava/util/List;Ljava/util/List;Ljava/util/List;ZLjava/util/List;JJ)V"⟩ : MethodName) prog_81_method_1_code 10 none :: ws) ({ frames := 2, cells := 0, slots := 0, locals := 24 } : Room)) (fun a U => a = #[(.ref a5_0), (.ref a5_1), (.ref a5_2), (.ref a5_3), (.int p5_4), (.ref a5_5), (.long q5_6), (.long q5_7)] ∧ Z.Warmed39 U.vm ∧ U.heap = h0) (fun _ _ _ _ _ => True) (fun _ U o U' => ∃ v L, o = .returned v ∧ Q5 Z a5_0 a5_1 a5_2 a5_3 p5_4 a5_5 q5_6 q5_7 w5_projection_a5_0 w5_patterns_a5_0 w5_filters_a5_0 w5_distinct_a5_0 w5_orderBy_a5_0 w5_offset_a5_0 w5_limit_a5_0 h0 n0 v U'.heap L ∧ FrameEnd U o U' L ({ frames := 2, cells := 0, slots := 0, locals := 24 } : Room).cells ({ frames := 2, cells := 0, slots := 0, locals := 24 } : Room).slots) := by
  refine MetFree.of_bodySF (plainFor_of_name pn_5) hisR ?_
  intro p e s m args below meth c s₁ Bd hml0 hP hK
  obtain ⟨rfl, hZ, hh⟩ := hP
  have hVV : ∀ (i : Nat) (d : Jvm.Cond), tables_1[i]? = some d → d.before a0 Z = true := fun i d h => hw d (List.mem_of_getElem? h)
  have hx := Bd.exec
  have hby := Bd.bytes
  have hml : c.maxLocals = 10 := hml0
  have hown : s.vm.findClass "com/example/tripleshard/tripleshard/sparql/Query" = some m.cls := findClass_of_methodNamed Bd.named
  have hnm := (name_of_methodNamed Bd.named Bd.method).1
  have X0 : Stand p l e ({ frames := 2, cells := 0, slots := 0, locals := 24 } : Room) s m #[(.ref a5_0), (.ref a5_1), (.ref a5_2), (.ref a5_3), (.int p5_4), (.ref a5_5), (.long q5_6), (.long q5_7)] below meth c s₁ [] 0 0 := Stand.of_body Bd
  have e0 : s₁.heap = h0 := by rw [← hh, Bd.state]; rfl
  have N0 := Fr.nil n0
  have pre0 : ∀ t, Steps p.tables e below (s₁.setTop (mkF m 0 #[.val (.ref a5_0), .val (.ref a5_1), .val (.ref a5_2), .val (.ref a5_3), .val (.int p5_4), .val (.ref a5_5), .val (.long q5_6), .second, .val (.long q5_7), .second] [])) t → Steps p.tables e below (s₁.setTop (entryFrame m #[(.ref a5_0), (.ref a5_1), (.ref a5_2), (.ref a5_3), (.int p5_4), (.ref a5_5), (.long q5_6), (.long q5_7)] 10)) t := fun t k => castTop (ef_5 m a5_0 a5_1 a5_2 a5_3 p5_4 a5_5 q5_6 q5_7) k
  obtain ⟨_, _, ⟨T1, L1, k1, n1⟩, -, X1, ⟨Lc1, hQ1, l1, y1, z1⟩, st1⟩ := X0.specialBack hx (y := (⟨"java/lang/Record", "<init>", "()V"⟩ : MethodName)) rfl hown (mvT hZ (hVV 33 _ rfl)) (mvT hZ (hVV 34 _ rfl)) (mvT hZ (hVV 37 _ rfl)) (by decide) (backOf (W := 0) (rm6 l Z a0 hw [] a5_0 h0 n0 Z0 ) hZ (hVV 37 _ rfl) (hVV 36 _ rfl) (by decide) (by decide)) (g := (mkF m 1 #[.val (.ref a5_0), .val (.ref a5_1), .val (.ref a5_2), .val (.ref a5_3), .val (.int p5_4), .val (.ref a5_5), .val (.long q5_6), .second, .val (.long q5_7), .second] [(.ref a5_0)])) rfl (by rw [hml]; rfl) (Steps.refl _) (a := a5_0) (argsL := []) (rest := []) (lenOf pd_0 rfl) rfl (by show 2 * 0 + _ ≤ _; exact Nat.le_of_eq rfl) (hb hby d5_1) (fun _ _ => ⟨rfl, e0, (by decide : 0 + 0 ≤ _), (by decide : 0 + 0 ≤ _)⟩)
  dsimp only [Pt.U, Pt.locs, Pt.cells, Pt.slots] at X1 l1 y1 z1 st1 hQ1
  subst l1 y1 z1
  obtain ⟨rfl, N1q, e1⟩ := hQ1
  have N2 := Fr.app N0 N1q
  have pre3 : ∀ t, Steps p.tables e below (T1.setTop (mkF m 4 #[.val (.ref a5_0), .val (.ref a5_1), .val (.ref a5_2), .val (.ref a5_3), .val (.int p5_4), .val (.ref a5_5), .val (.long q5_6), .second, .val (.long q5_7), .second] [])) t → Steps p.tables e below (s₁.setTop (entryFrame m #[(.ref a5_0), (.ref a5_1), (.ref a5_2), (.ref a5_3), (.int p5_4), (.ref a5_5), (.long q5_6), (.long q5_7)] 10)) t := fun t k => pre0 t (by
    show Steps p.tables e below (s₁.setTop (mkF m 0 #[.val (.ref a5_0), .val (.ref a5_1), .val (.ref a5_2), .val (.ref a5_3), .val (.int p5_4), .val (.ref a5_5), .val (.long q5_6), .second, .val (.long q5_7), .second] [])) _
    refine XS.aloadN X0.here hx rfl (hb hby d5_0) rfl rfl ?_
    show Steps p.tables e below (s₁.setTop (mkF m 1 #[.val (.ref a5_0), .val (.ref a5_1), .val (.ref a5_2), .val (.ref a5_3), .val (.int p5_4), .val (.ref a5_5), .val (.long q5_6), .second, .val (.long q5_7), .second] [(.ref a5_0)])) _
    refine st1.trans ?_
    exact k)
  obtain ⟨T4, h4, X4, e4, W4, st4⟩ := putF X1 hx hZ hown (host := "") (Or.inl (hVV 39 _ rfl)) Via.refl e1 F_projection_a5_0 E_a5_0 (Or.inr ⟨(hVV 40 _ rfl), rfl, hnm⟩) (hVV 2 _ rfl) (ty := (.object "java/util/List")) (by decide) rfl rfl (g := (mkF m 6 #[.val (.ref a5_0), .val (.ref a5_1), .val (.ref a5_2), .val (.ref a5_3), .val (.int p5_4), .val (.ref a5_5), .val (.long q5_6), .second, .val (.long q5_7), .second] [(.ref a5_1), (.ref a5_0)])) rfl rfl (hb hby d5_6)
  have pre5 : ∀ t, Steps p.tables e below (T4.setTop (mkF m 9 #[.val (.ref a5_0), .val (.ref a5_1), .val (.ref a5_2), .val (.ref a5_3), .val (.int p5_4), .val (.ref a5_5), .val (.long q5_6), .second, .val (.long q5_7), .second] [])) t → Steps p.tables e below (s₁.setTop (entryFrame m #[(.ref a5_0), (.ref a5_1), (.ref a5_2), (.ref a5_3), (.int p5_4), (.ref a5_5), (.long q5_6), (.long q5_7)] 10)) t := fun t k => pre3 t (by
    show Steps p.tables e below (T1.setTop (mkF m 4 #[.val (.ref a5_0), .val (.ref a5_1), .val (.ref a5_2), .val (.ref a5_3), .val (.int p5_4), .val (.ref a5_5), .val (.long q5_6), .second, .val (.long q5_7), .second] [])) _
    refine XS.aloadN X1.here hx rfl (hb hby d5_4) rfl rfl ?_
    show Steps p.tables e below (T1.setTop (mkF m 5 #[.val (.ref a5_0), .val (.ref a5_1), .val (.ref a5_2), .val (.ref a5_3), .val (.int p5_4), .val (.ref a5_5), .val (.long q5_6), .second, .val (.long q5_7), .second] [(.ref a5_0)])) _
    refine XS.aloadN X1.here hx rfl (hb hby d5_5) rfl rfl ?_
    show Steps p.tables e below (T1.setTop (mkF m 6 #[.val (.ref a5_0), .val (.ref a5_1), .val (.ref a5_2), .val (.ref a5_3), .val (.int p5_4), .val (.ref a5_5), .val (.long q5_6), .second, .val (.long q5_7), .second] [(.ref a5_1), (.ref a5_0)])) _
    refine st4 _ ?_
    exact k)
  have f6 := E_a5_0.wr W4
  have f7 := F_patterns_a5_0.other W4 (Or.inr (slot_ne (Or.inr (hVV 42 _ rfl)) (Or.inr (hVV 40 _ rfl)) (by decide) (t := (.object "java/util/List")) (t' := (.object "java/util/List")) (by decide) (by decide)))
  have f8 := F_filters_a5_0.other W4 (Or.inr (slot_ne (Or.inr (hVV 44 _ rfl)) (Or.inr (hVV 40 _ rfl)) (by decide) (t := (.object "java/util/List")) (t' := (.object "java/util/List")) (by decide) (by decide)))
  have f9 := F_distinct_a5_0.other W4 (Or.inr (slot_ne (Or.inr (hVV 46 _ rfl)) (Or.inr (hVV 40 _ rfl)) (by decide) (t := .boolean) (t' := (.object "java/util/List")) (by decide) (by decide)))
  have f10 := F_orderBy_a5_0.other W4 (Or.inr (slot_ne (Or.inr (hVV 48 _ rfl)) (Or.inr (hVV 40 _ rfl)) (by decide) (t := (.object "java/util/List")) (t' := (.object "java/util/List")) (by decide) (by decide)))
  have f11 := F_offset_a5_0.other W4 (Or.inr (slot_ne (Or.inr (hVV 50 _ rfl)) (Or.inr (hVV 40 _ rfl)) (by decide) (t := .long) (t' := (.object "java/util/List")) (by decide) (by decide)))
  have f12 := F_limit_a5_0.other W4 (Or.inr (slot_ne (Or.inr (hVV 52 _ rfl)) (Or.inr (hVV 40 _ rfl)) (by decide) (t := .long) (t' := (.object "java/util/List")) (by decide) (by decide)))
  have z13 := Nat.le_trans Z0 (Keep.of_wr W4).1
  have k14 := (Keep.refl h0 [a5_0]).wr W4 (Or.inl (List.mem_of_getElem? (i := 0) rfl))
  have f15 := F_projection_a5_0.same W4
  have N16 := Fr.snoc X4 N2 g_a5_0
  obtain ⟨T17, h17, X17, e17, W17, st17⟩ := putF X4 hx hZ hown (host := "") (Or.inl (hVV 41 _ rfl)) Via.refl e4 f7 f6 (Or.inr ⟨(hVV 42 _ rfl), rfl, hnm⟩) (hVV 2 _ rfl) (ty := (.object "java/util/List")) (by decide) rfl rfl (g := (mkF m 11 #[.val (.ref a5_0), .val (.ref a5_1), .val (.ref a5_2), .val (.ref a5_3), .val (.int p5_4), .val (.ref a5_5), .val (.long q5_6), .second, .val (.long q5_7), .second] [(.ref a5_2), (.ref a5_0)])) rfl rfl (hb hby d5_11)
  have pre18 : ∀ t, Steps p.tables e below (T17.setTop (mkF m 14 #[.val (.ref a5_0), .val (.ref a5_1), .val (.ref a5_2), .val (.ref a5_3), .val (.int p5_4), .val (.ref a5_5), .val (.long q5_6), .second, .val (.long q5_7), .second] [])) t → Steps p.tables e below (s₁.setTop (entryFrame m #[(.ref a5_0), (.ref a5_1), (.ref a5_2), (.ref a5_3), (.int p5_4), (.ref a5_5), (.long q5_6), (.long q5_7)] 10)) t := fun t k => pre5 t (by
    show Steps p.tables e below (T4.setTop (mkF m 9 #[.val (.ref a5_0), .val (.ref a5_1), .val (.ref a5_2), .val (.ref a5_3), .val (.int p5_4), .val (.ref a5_5), .val (.long q5_6), .second, .val (.long q5_7), .second] [])) _
    refine XS.aloadN X4.here hx rfl (hb hby d5_9) rfl rfl ?_
    show Steps p.tables e below (T4.setTop (mkF m 10 #[.val (.ref a5_0), .val (.ref a5_1), .val (.ref a5_2), .val (.ref a5_3), .val (.int p5_4), .val (.ref a5_5), .val (.long q5_6), .second, .val (.long q5_7), .second] [(.ref a5_0)])) _
    refine XS.aloadN X4.here hx rfl (hb hby d5_10) rfl rfl ?_
    show Steps p.tables e below (T4.setTop (mkF m 11 #[.val (.ref a5_0), .val (.ref a5_1), .val (.ref a5_2), .val (.ref a5_3), .val (.int p5_4), .val (.ref a5_5), .val (.long q5_6), .second, .val (.long q5_7), .second] [(.ref a5_2), (.ref a5_0)])) _
    refine st17 _ ?_
    exact k)
  have f19 := f6.wr W17
  have f20 := f8.other W17 (Or.inr (slot_ne (Or.inr (hVV 44 _ rfl)) (Or.inr (hVV 42 _ rfl)) (by decide) (t := (.object "java/util/List")) (t' := (.object "java/util/List")) (by decide) (by decide)))
  have f21 := f9.other W17 (Or.inr (slot_ne (Or.inr (hVV 46 _ rfl)) (Or.inr (hVV 42 _ rfl)) (by decide) (t := .boolean) (t' := (.object "java/util/List")) (by decide) (by decide)))
  have f22 := f10.other W17 (Or.inr (slot_ne (Or.inr (hVV 48 _ rfl)) (Or.inr (hVV 42 _ rfl)) (by decide) (t := (.object "java/util/List")) (t' := (.object "java/util/List")) (by decide) (by decide)))
  have f23 := f11.other W17 (Or.inr (slot_ne (Or.inr (hVV 50 _ rfl)) (Or.inr (hVV 42 _ rfl)) (by decide) (t := .long) (t' := (.object "java/util/List")) (by decide) (by decide)))
  have f24 := f12.other W17 (Or.inr (slot_ne (Or.inr (hVV 52 _ rfl)) (Or.inr (hVV 42 _ rfl)) (by decide) (t := .long) (t' := (.object "java/util/List")) (by decide) (by decide)))
  have f25 := f15.other W17 (Or.inr (slot_ne (Or.inr (hVV 40 _ rfl)) (Or.inr (hVV 42 _ rfl)) (by decide) (t := (.object "java/util/List")) (t' := (.object "java/util/List")) (by decide) (by decide)))
  have z26 := Nat.le_trans z13 (Keep.of_wr W17).1
  have k27 := k14.wr W17 (Or.inl (List.mem_of_getElem? (i := 0) rfl))
  have f28 := f7.same W17
  have N29 := Fr.snoc X17 N16 g_a5_0
  obtain ⟨T30, h30, X30, e30, W30, st30⟩ := putF X17 hx hZ hown (host := "") (Or.inl (hVV 43 _ rfl)) Via.refl e17 f20 f19 (Or.inr ⟨(hVV 44 _ rfl), rfl, hnm⟩) (hVV 2 _ rfl) (ty := (.object "java/util/List")) (by decide) rfl rfl (g := (mkF m 16 #[.val (.ref a5_0), .val (.ref a5_1), .val (.ref a5_2), .val (.ref a5_3), .val (.int p5_4), .val (.ref a5_5), .val (.long q5_6), .second, .val (.long q5_7), .second] [(.ref a5_3), (.ref a5_0)])) rfl rfl (hb hby d5_16)
  have pre31 : ∀ t, Steps p.tables e below (T30.setTop (mkF m 19 #[.val (.ref a5_0), .val (.ref a5_1), .val (.ref a5_2), .val (.ref a5_3), .val (.int p5_4), .val (.ref a5_5), .val (.long q5_6), .second, .val (.long q5_7), .second] [])) t → Steps p.tables e below (s₁.setTop (entryFrame m #[(.ref a5_0), (.ref a5_1), (.ref a5_2), (.ref a5_3), (.int p5_4), (.ref a5_5), (.long q5_6), (.long q5_7)] 10)) t := fun t k => pre18 t (by
    show Steps p.tables e below (T17.setTop (mkF m 14 #[.val (.ref a5_0), .val (.ref a5_1), .val (.ref a5_2), .val (.ref a5_3), .val (.int p5_4), .val (.ref a5_5), .val (.long q5_6), .second, .val (.long q5_7), .second] [])) _
    refine XS.aloadN X17.here hx rfl (hb hby d5_14) rfl rfl ?_
    show Steps p.tables e below (T17.setTop (mkF m 15 #[.val (.ref a5_0), .val (.ref a5_1), .val (.ref a5_2), .val (.ref a5_3), .val (.int p5_4), .val (.ref a5_5), .val (.long q5_6), .second, .val (.long q5_7), .second] [(.ref a5_0)])) _
    refine XS.aloadN X17.here hx rfl (hb hby d5_15) rfl rfl ?_
    show Steps p.tables e below (T17.setTop (mkF m 16 #[.val (.ref a5_0), .val (.ref a5_1), .val (.ref a5_2), .val (.ref a5_3), .val (.int p5_4), .val (.ref a5_5), .val (.long q5_6), .second, .val (.long q5_7), .second] [(.ref a5_3), (.ref a5_0)])) _
    refine st30 _ ?_
    exact k)
  have f32 := f19.wr W30
  have f33 := f21.other W30 (Or.inr (slot_ne (Or.inr (hVV 46 _ rfl)) (Or.inr (hVV 44 _ rfl)) (by decide) (t := .boolean) (t' := (.object "java/util/List")) (by decide) (by decide)))
  have f34 := f22.other W30 (Or.inr (slot_ne (Or.inr (hVV 48 _ rfl)) (Or.inr (hVV 44 _ rfl)) (by decide) (t := (.object "java/util/List")) (t' := (.object "java/util/List")) (by decide) (by decide)))
  have f35 := f23.other W30 (Or.inr (slot_ne (Or.inr (hVV 50 _ rfl)) (Or.inr (hVV 44 _ rfl)) (by decide) (t := .long) (t' := (.object "java/util/List")) (by decide) (by decide)))
  have f36 := f24.other W30 (Or.inr (slot_ne (Or.inr (hVV 52 _ rfl)) (Or.inr (hVV 44 _ rfl)) (by decide) (t := .long) (t' := (.object "java/util/List")) (by decide) (by decide)))
  have f37 := f25.other W30 (Or.inr (slot_ne (Or.inr (hVV 40 _ rfl)) (Or.inr (hVV 44 _ rfl)) (by decide) (t := (.object "java/util/List")) (t' := (.object "java/util/List")) (by decide) (by decide)))
  have f38 := f28.other W30 (Or.inr (slot_ne (Or.inr (hVV 42 _ rfl)) (Or.inr (hVV 44 _ rfl)) (by decide) (t := (.object "java/util/List")) (t' := (.object "java/util/List")) (by decide) (by decide)))
  have z39 := Nat.le_trans z26 (Keep.of_wr W30).1
  have k40 := k27.wr W30 (Or.inl (List.mem_of_getElem? (i := 0) rfl))
  have f41 := f20.same W30
  have N42 := Fr.snoc X30 N29 g_a5_0
  obtain ⟨T43, h43, X43, e43, W43, st43⟩ := putFN X30 hx hZ hown (hVV 45 _ rfl) Via.refl e30 f33 f32 (Or.inr ⟨(hVV 46 _ rfl), rfl, hnm⟩) (hVV 2 _ rfl) (ty := .boolean) (v' := (.int (nar .boolean p5_4))) (by decide) rfl (fits_nar_bool _) (g := (mkF m 22 #[.val (.ref a5_0), .val (.ref a5_1), .val (.ref a5_2), .val (.ref a5_3), .val (.int p5_4), .val (.ref a5_5), .val (.long q5_6), .second, .val (.long q5_7), .second] [(.int p5_4), (.ref a5_0)])) rfl rfl (hb hby d5_22)
  have pre44 : ∀ t, Steps p.tables e below (T43.setTop (mkF m 25 #[.val (.ref a5_0), .val (.ref a5_1), .val (.ref a5_2), .val (.ref a5_3), .val (.int p5_4), .val (.ref a5_5), .val (.long q5_6), .second, .val (.long q5_7), .second] [])) t → Steps p.tables e below (s₁.setTop (entryFrame m #[(.ref a5_0), (.ref a5_1), (.ref a5_2), (.ref a5_3), (.int p5_4), (.ref a5_5), (.long q5_6), (.long q5_7)] 10)) t := fun t k => pre31 t (by
    show Steps p.tables e below (T30.setTop (mkF m 19 #[.val (.ref a5_0), .val (.ref a5_1), .val (.ref a5_2), .val (.ref a5_3), .val (.int p5_4), .val (.ref a5_5), .val (.long q5_6), .second, .val (.long q5_7), .second] [])) _
    refine XS.aloadN X30.here hx rfl (hb hby d5_19) rfl rfl ?_
    show Steps p.tables e below (T30.setTop (mkF m 20 #[.val (.ref a5_0), .val (.ref a5_1), .val (.ref a5_2), .val (.ref a5_3), .val (.int p5_4), .val (.ref a5_5), .val (.long q5_6), .second, .val (.long q5_7), .second] [(.ref a5_0)])) _
    refine XS.iload X30.here hx rfl (hb hby d5_20) rfl ?_
    show Steps p.tables e below (T30.setTop (mkF m 22 #[.val (.ref a5_0), .val (.ref a5_1), .val (.ref a5_2), .val (.ref a5_3), .val (.int p5_4), .val (.ref a5_5), .val (.long q5_6), .second, .val (.long q5_7), .second] [(.int p5_4), (.ref a5_0)])) _
    refine st43 _ ?_
    exact k)
  have f45 := f32.wr W43
  have f46 := f34.other W43 (Or.inr (slot_ne (Or.inr (hVV 48 _ rfl)) (Or.inr (hVV 46 _ rfl)) (by decide) (t := (.object "java/util/List")) (t' := .boolean) (by decide) (by decide)))
  have f47 := f35.other W43 (Or.inr (slot_ne (Or.inr (hVV 50 _ rfl)) (Or.inr (hVV 46 _ rfl)) (by decide) (t := .long) (t' := .boolean) (by decide) (by decide)))
  have f48 := f36.other W43 (Or.inr (slot_ne (Or.inr (hVV 52 _ rfl)) (Or.inr (hVV 46 _ rfl)) (by decide) (t := .long) (t' := .boolean) (by decide) (by decide)))
  have f49 := f37.other W43 (Or.inr (slot_ne (Or.inr (hVV 40 _ rfl)) (Or.inr (hVV 46 _ rfl)) (by decide) (t := (.object "java/util/List")) (t' := .boolean) (by decide) (by decide)))
  have f50 := f38.other W43 (Or.inr (slot_ne (Or.inr (hVV 42 _ rfl)) (Or.inr (hVV 46 _ rfl)) (by decide) (t := (.object "java/util/List")) (t' := .boolean) (by decide) (by decide)))
  have f51 := f41.other W43 (Or.inr (slot_ne (Or.inr (hVV 44 _ rfl)) (Or.inr (hVV 46 _ rfl)) (by decide) (t := (.object "java/util/List")) (t' := .boolean) (by decide) (by decide)))
  have z52 := Nat.le_trans z39 (Keep.of_wr W43).1
  have k53 := k40.wr W43 (Or.inl (List.mem_of_getElem? (i := 0) rfl))
  have f54 := f33.same W43
  have N55 := Fr.snoc X43 N42 g_a5_0
  obtain ⟨T56, h56, X56, e56, W56, st56⟩ := putF X43 hx hZ hown (host := "") (Or.inl (hVV 47 _ rfl)) Via.refl e43 f46 f45 (Or.inr ⟨(hVV 48 _ rfl), rfl, hnm⟩) (hVV 2 _ rfl) (ty := (.object "java/util/List")) (by decide) rfl rfl (g := (mkF m 28 #[.val (.ref a5_0), .val (.ref a5_1), .val (.ref a5_2), .val (.ref a5_3), .val (.int p5_4), .val (.ref a5_5), .val (.long q5_6), .second, .val (.long q5_7), .second] [(.ref a5_5), (.ref a5_0)])) rfl rfl (hb hby d5_28)
  have pre57 : ∀ t, Steps p.tables e below (T56.setTop (mkF m 31 #[.val (.ref a5_0), .val (.ref a5_1), .val (.ref a5_2), .val (.ref a5_3), .val (.int p5_4), .val (.ref a5_5), .val (.long q5_6), .second, .val (.long q5_7), .second] [])) t → Steps p.tables e below (s₁.setTop (entryFrame m #[(.ref a5_0), (.ref a5_1), (.ref a5_2), (.ref a5_3), (.int p5_4), (.ref a5_5), (.long q5_6), (.long q5_7)] 10)) t := fun t k => pre44 t (by
    show Steps p.tables e below (T43.setTop (mkF m 25 #[.val (.ref a5_0), .val (.ref a5_1), .val (.ref a5_2), .val (.ref a5_3), .val (.int p5_4), .val (.ref a5_5), .val (.long q5_6), .second, .val (.long q5_7), .second] [])) _
    refine XS.aloadN X43.here hx rfl (hb hby d5_25) rfl rfl ?_
    show Steps p.tables e below (T43.setTop (mkF m 26 #[.val (.ref a5_0), .val (.ref a5_1), .val (.ref a5_2), .val (.ref a5_3), .val (.int p5_4), .val (.ref a5_5), .val (.long q5_6), .second, .val (.long q5_7), .second] [(.ref a5_0)])) _
    refine XS.aload X43.here hx rfl (hb hby d5_26) rfl rfl ?_
    show Steps p.tables e below (T43.setTop (mkF m 28 #[.val (.ref a5_0), .val (.ref a5_1), .val (.ref a5_2), .val (.ref a5_3), .val (.int p5_4), .val (.ref a5_5), .val (.long q5_6), .second, .val (.long q5_7), .second] [(.ref a5_5), (.ref a5_0)])) _
    refine st56 _ ?_
    exact k)
  have f58 := f45.wr W56
  have f59 := f47.other W56 (Or.inr (slot_ne (Or.inr (hVV 50 _ rfl)) (Or.inr (hVV 48 _ rfl)) (by decide) (t := .long) (t' := (.object "java/util/List")) (by decide) (by decide)))
  have f60 := f48.other W56 (Or.inr (slot_ne (Or.inr (hVV 52 _ rfl)) (Or.inr (hVV 48 _ rfl)) (by decide) (t := .long) (t' := (.object "java/util/List")) (by decide) (by decide)))
  have f61 := f49.other W56 (Or.inr (slot_ne (Or.inr (hVV 40 _ rfl)) (Or.inr (hVV 48 _ rfl)) (by decide) (t := (.object "java/util/List")) (t' := (.object "java/util/List")) (by decide) (by decide)))
  have f62 := f50.other W56 (Or.inr (slot_ne (Or.inr (hVV 42 _ rfl)) (Or.inr (hVV 48 _ rfl)) (by decide) (t := (.object "java/util/List")) (t' := (.object "java/util/List")) (by decide) (by decide)))
  have f63 := f51.other W56 (Or.inr (slot_ne (Or.inr (hVV 44 _ rfl)) (Or.inr (hVV 48 _ rfl)) (by decide) (t := (.object "java/util/List")) (t' := (.object "java/util/List")) (by decide) (by decide)))
  have f64 := f54.other W56 (Or.inr (slot_ne (Or.inr (hVV 46 _ rfl)) (Or.inr (hVV 48 _ rfl)) (by decide) (t := .boolean) (t' := (.object "java/util/List")) (by decide) (by decide)))
  have z65 := Nat.le_trans z52 (Keep.of_wr W56).1
  have k66 := k53.wr W56 (Or.inl (List.mem_of_getElem? (i := 0) rfl))
  have f67 := f46.same W56
  have N68 := Fr.snoc X56 N55 g_a5_0
  obtain ⟨T69, h69, X69, e69, W69, st69⟩ := putF X56 hx hZ hown (host := "") (Or.inl (hVV 49 _ rfl)) Via.refl e56 f59 f58 (Or.inr ⟨(hVV 50 _ rfl), rfl, hnm⟩) (hVV 2 _ rfl) (ty := .long) (by decide) rfl rfl (g := (mkF m 34 #[.val (.ref a5_0), .val (.ref a5_1), .val (.ref a5_2), .val (.ref a5_3), .val (.int p5_4), .val (.ref a5_5), .val (.long q5_6), .second, .val (.long q5_7), .second] [(.long q5_6), (.ref a5_0)])) rfl rfl (hb hby d5_34)
  have pre70 : ∀ t, Steps p.tables e below (T69.setTop (mkF m 37 #[.val (.ref a5_0), .val (.ref a5_1), .val (.ref a5_2), .val (.ref a5_3), .val (.int p5_4), .val (.ref a5_5), .val (.long q5_6), .second, .val (.long q5_7), .second] [])) t → Steps p.tables e below (s₁.setTop (entryFrame m #[(.ref a5_0), (.ref a5_1), (.ref a5_2), (.ref a5_3), (.int p5_4), (.ref a5_5), (.long q5_6), (.long q5_7)] 10)) t := fun t k => pre57 t (by
    show Steps p.tables e below (T56.setTop (mkF m 31 #[.val (.ref a5_0), .val (.ref a5_1), .val (.ref a5_2), .val (.ref a5_3), .val (.int p5_4), .val (.ref a5_5), .val (.long q5_6), .second, .val (.long q5_7), .second] [])) _
    refine XS.aloadN X56.here hx rfl (hb hby d5_31) rfl rfl ?_
    show Steps p.tables e below (T56.setTop (mkF m 32 #[.val (.ref a5_0), .val (.ref a5_1), .val (.ref a5_2), .val (.ref a5_3), .val (.int p5_4), .val (.ref a5_5), .val (.long q5_6), .second, .val (.long q5_7), .second] [(.ref a5_0)])) _
    refine XS.lload X56.here hx rfl (hb hby d5_32) rfl ?_
    show Steps p.tables e below (T56.setTop (mkF m 34 #[.val (.ref a5_0), .val (.ref a5_1), .val (.ref a5_2), .val (.ref a5_3), .val (.int p5_4), .val (.ref a5_5), .val (.long q5_6), .second, .val (.long q5_7), .second] [(.long q5_6), (.ref a5_0)])) _
    refine st69 _ ?_
    exact k)
  have f71 := f58.wr W69
  have f72 := f60.other W69 (Or.inr (slot_ne (Or.inr (hVV 52 _ rfl)) (Or.inr (hVV 50 _ rfl)) (by decide) (t := .long) (t' := .long) (by decide) (by decide)))
  have f73 := f61.other W69 (Or.inr (slot_ne (Or.inr (hVV 40 _ rfl)) (Or.inr (hVV 50 _ rfl)) (by decide) (t := (.object "java/util/List")) (t' := .long) (by decide) (by decide)))
  have f74 := f62.other W69 (Or.inr (slot_ne (Or.inr (hVV 42 _ rfl)) (Or.inr (hVV 50 _ rfl)) (by decide) (t := (.object "java/util/List")) (t' := .long) (by decide) (by decide)))
  have f75 := f63.other W69 (Or.inr (slot_ne (Or.inr (hVV 44 _ rfl)) (Or.inr (hVV 50 _ rfl)) (by decide) (t := (.object "java/util/List")) (t' := .long) (by decide) (by decide)))
  have f76 := f64.other W69 (Or.inr (slot_ne (Or.inr (hVV 46 _ rfl)) (Or.inr (hVV 50 _ rfl)) (by decide) (t := .boolean) (t' := .long) (by decide) (by decide)))
  have f77 := f67.other W69 (Or.inr (slot_ne (Or.inr (hVV 48 _ rfl)) (Or.inr (hVV 50 _ rfl)) (by decide) (t := (.object "java/util/List")) (t' := .long) (by decide) (by decide)))
  have z78 := Nat.le_trans z65 (Keep.of_wr W69).1
  have k79 := k66.wr W69 (Or.inl (List.mem_of_getElem? (i := 0) rfl))
  have f80 := f59.same W69
  have N81 := Fr.snoc X69 N68 g_a5_0
  obtain ⟨T82, h82, X82, e82, W82, st82⟩ := putF X69 hx hZ hown (host := "") (Or.inl (hVV 51 _ rfl)) Via.refl e69 f72 f71 (Or.inr ⟨(hVV 52 _ rfl), rfl, hnm⟩) (hVV 2 _ rfl) (ty := .long) (by decide) rfl rfl (g := (mkF m 40 #[.val (.ref a5_0), .val (.ref a5_1), .val (.ref a5_2), .val (.ref a5_3), .val (.int p5_4), .val (.ref a5_5), .val (.long q5_6), .second, .val (.long q5_7), .second] [(.long q5_7), (.ref a5_0)])) rfl rfl (hb hby d5_40)
  have pre83 : ∀ t, Steps p.tables e below (T82.setTop (mkF m 43 #[.val (.ref a5_0), .val (.ref a5_1), .val (.ref a5_2), .val (.ref a5_3), .val (.int p5_4), .val (.ref a5_5), .val (.long q5_6), .second, .val (.long q5_7), .second] [])) t → Steps p.tables e below (s₁.setTop (entryFrame m #[(.ref a5_0), (.ref a5_1), (.ref a5_2), (.ref a5_3), (.int p5_4), (.ref a5_5), (.long q5_6), (.long q5_7)] 10)) t := fun t k => pre70 t (by
    show Steps p.tables e below (T69.setTop (mkF m 37 #[.val (.ref a5_0), .val (.ref a5_1), .val (.ref a5_2), .val (.ref a5_3), .val (.int p5_4), .val (.ref a5_5), .val (.long q5_6), .second, .val (.long q5_7), .second] [])) _
    refine XS.aloadN X69.here hx rfl (hb hby d5_37) rfl rfl ?_
    show Steps p.tables e below (T69.setTop (mkF m 38 #[.val (.ref a5_0), .val (.ref a5_1), .val (.ref a5_2), .val (.ref a5_3), .val (.int p5_4), .val (.ref a5_5), .val (.long q5_6), .second, .val (.long q5_7), .second] [(.ref a5_0)])) _
    refine XS.lload X69.here hx rfl (hb hby d5_38) rfl ?_
    show Steps p.tables e below (T69.setTop (mkF m 40 #[.val (.ref a5_0), .val (.ref a5_1), .val (.ref a5_2), .val (.ref a5_3), .val (.int p5_4), .val (.ref a5_5), .val (.long q5_6), .second, .val (.long q5_7), .second] [(.long q5_7), (.ref a5_0)])) _
    refine st82 _ ?_
    exact k)
  have f84 := f71.wr W82
  have f85 := f73.other W82 (Or.inr (slot_ne (Or.inr (hVV 40 _ rfl)) (Or.inr (hVV 52 _ rfl)) (by decide) (t := (.object "java/util/List")) (t' := .long) (by decide) (by decide)))
  have f86 := f74.other W82 (Or.inr (slot_ne (Or.inr (hVV 42 _ rfl)) (Or.inr (hVV 52 _ rfl)) (by decide) (t := (.object "java/util/List")) (t' := .long) (by decide) (by decide)))
  have f87 := f75.other W82 (Or.inr (slot_ne (Or.inr (hVV 44 _ rfl)) (Or.inr (hVV 52 _ rfl)) (by decide) (t := (.object "java/util/List")) (t' := .long) (by decide) (by decide)))
  have f88 := f76.other W82 (Or.inr (slot_ne (Or.inr (hVV 46 _ rfl)) (Or.inr (hVV 52 _ rfl)) (by decide) (t := .boolean) (t' := .long) (by decide) (by decide)))
  have f89 := f77.other W82 (Or.inr (slot_ne (Or.inr (hVV 48 _ rfl)) (Or.inr (hVV 52 _ rfl)) (by decide) (t := (.object "java/util/List")) (t' := .long) (by decide) (by decide)))
  have f90 := f80.other W82 (Or.inr (slot_ne (Or.inr (hVV 50 _ rfl)) (Or.inr (hVV 52 _ rfl)) (by decide) (t := .long) (t' := .long) (by decide) (by decide)))
  have z91 := Nat.le_trans z78 (Keep.of_wr W82).1
  have k92 := k79.wr W82 (Or.inl (List.mem_of_getElem? (i := 0) rfl))
  have f93 := f72.same W82
  have N94 := Fr.snoc X82 N81 g_a5_0
  obtain ⟨fs, hr, hrun, hended, hW, hsame⟩ := X82.leave (v := none) (fun _ => rfl)
  refine ⟨_, _, pre83 _ ?_, hrun, hended, _, _, rfl, ?_, ⟨_, rfl⟩, hW, hsame.mono (by decide) (by decide)⟩
  · show Steps p.tables e below (T82.setTop (mkF m 43 #[.val (.ref a5_0), .val (.ref a5_1), .val (.ref a5_2), .val (.ref a5_3), .val (.int p5_4), .val (.ref a5_5), .val (.long q5_6), .second, .val (.long q5_7), .second] [])) _
    exact X82.returnOut hx Bd.returns (hb hby d5_43) hr
  · show Q5 Z a5_0 a5_1 a5_2 a5_3 p5_4 a5_5 q5_6 q5_7 w5_projection_a5_0 w5_patterns_a5_0 w5_filters_a5_0 w5_distinct_a5_0 w5_orderBy_a5_0 w5_offset_a5_0 w5_limit_a5_0 h0 n0 _ T82.heap _
    rw [e82]
    exact ⟨rfl, N94, k92, f84, f85, f86, f87, f88, f89, f90, f93⟩
theorem d7_0 : decode prog_81_method_5_code 0 = .ok (.aload_n 0, 1) := by decide +kernel
theorem d7_1 : decode prog_81_method_5_code 1 = .ok (.getfield 26, 3) := by decide +kernel
theorem d7_4 : decode prog_81_method_5_code 4 = .ok (.aload_n 0, 1) := by decide +kernel
theorem d7_5 : decode prog_81_method_5_code 5 = .ok (.getfield 30, 3) := by decide +kernel
theorem d7_8 : decode prog_81_method_5_code 8 = .ok (.ladd, 1) := by decide +kernel
theorem d7_9 : decode prog_81_method_5_code 9 = .ok (.lstore_n 1, 1) := by decide +kernel
theorem d7_10 : decode prog_81_method_5_code 10 = .ok (.lload_n 1, 1) := by decide +kernel
theorem d7_11 : decode prog_81_method_5_code 11 = .ok (.lconst 0, 1) := by decide +kernel
theorem d7_12 : decode prog_81_method_5_code 12 = .ok (.lcmp, 1) := by decide +kernel
theorem d7_13 : decode prog_81_method_5_code 13 = .ok (.ifCond .ge 9, 3) := by decide +kernel
theorem d7_16 : decode prog_81_method_5_code 16 = .ok (.ldc2_w 82, 3) := by decide +kernel
theorem d7_19 : decode prog_81_method_5_code 19 = .ok (.goto 4, 3) := by decide +kernel
theorem d7_22 : decode prog_81_method_5_code 22 = .ok (.lload_n 1, 1) := by decide +kernel
theorem d7_23 : decode prog_81_method_5_code 23 = .ok (.lreturn, 1) := by decide +kernel
theorem pn_7 : plainName "com/example/tripleshard/tripleshard/sparql/Query" = true := by first | (simp [plainName, overriddenIn]; done) | decide +kernel
theorem ef_7 (m : MethodId) (x0 : Addr) : entryFrame m #[(.ref x0)] 3 = mkF m 0 #[.val (.ref x0), .unset, .unset] [] := by first | (simp [entryFrame, mkF, argsToLocals, Value.category]; done) | rfl
def Q7 (Z : State) (a7_0 : Addr) (w7_offset_a7_0 : Int64) (w7_limit_a7_0 : Int64) (h0 : Heap) (n0 : Nat) (v : Option Value) (h : Heap) (L : List Loc) : Prop := v = some (.long (if (w7_offset_a7_0 + w7_limit_a7_0) < (0 : Int64) then (9223372036854775807 : Int64) else (w7_offset_a7_0 + w7_limit_a7_0))) ∧ Fr n0 L ∧ h = h0
set_option maxRecDepth 65536 in
set_option maxHeartbeats 40000000 in
theorem rm7 (l : Launch) (Z : State) (a0 : Array Value) (hw : ∀ d ∈ tables_1, d.before a0 Z = true) (ws : List Jvm.Cond) (a7_0 : Addr) (w7_offset_a7_0 : Int64) (w7_limit_a7_0 : Int64) (h0 : Heap) (n0 : Nat) (Z0 : n0 ≤ h0.size) (F_offset_a7_0 : Fld Z h0 a7_0 "com/example/tripleshard/tripleshard/sparql/Query" "offset" "J" (.long w7_offset_a7_0)) (F_limit_a7_0 : Fld Z h0 a7_0 "com/example/tripleshard/tripleshard/sparql/Query" "limit" "J" (.long w7_limit_a7_0)) :
    MetFree l (⟨"com/example/tripleshard/tripleshard/sparql/Query", "sliceEnd", "()J"⟩ : MethodName) (head1 (Jvm.Cond.code (⟨"com/example/tripleshard/tripleshard/sparql/Query", "sliceEnd", "()J"⟩ : MethodName) prog_81_method_5_code 3 (some .long) :: ws) ({ frames := 0, cells := 0, slots := 0, locals := 0 } : Room)) (fun a U => a = #[(.ref a7_0)] ∧ Z.Warmed39 U.vm ∧ U.heap = h0) (fun _ _ _ _ _ => True) (fun _ U o U' => ∃ v L, o = .returned v ∧ Q7 Z a7_0 w7_offset_a7_0 w7_limit_a7_0 h0 n0 v U'.heap L ∧ FrameEnd U o U' L ({ frames := 0, cells := 0, slots := 0, locals := 0 } : Room).cells ({ frames := 0, cells := 0, slots := 0, locals := 0 } : Room).slots) := by
  refine MetFree.of_bodySF (plainFor_of_name pn_7) hisR ?_
  intro p e s m args below meth c s₁ Bd hml0 hP hK
  obtain ⟨rfl, hZ, hh⟩ := hP
  have hVV : ∀ (i : Nat) (d : Jvm.Cond), tables_1[i]? = some d → d.before a0 Z = true := fun i d h => hw d (List.mem_of_getElem? h)
  have hx := Bd.exec
  have hby := Bd.bytes
  have hml : c.maxLocals = 3 := hml0
  have hown : s.vm.findClass "com/example/tripleshard/tripleshard/sparql/Query" = some m.cls := findClass_of_methodNamed Bd.named
  have hnm := (name_of_methodNamed Bd.named Bd.method).1
  have X0 : Stand p l e ({ frames := 0, cells := 0, slots := 0, locals := 0 } : Room) s m #[(.ref a7_0)] below meth c s₁ [] 0 0 := Stand.of_body Bd
  have e0 : s₁.heap = h0 := by rw [← hh, Bd.state]; rfl
  have N0 := Fr.nil n0
  have pre0 : ∀ t, Steps p.tables e below (s₁.setTop (mkF m 0 #[.val (.ref a7_0), .unset, .unset] [])) t → Steps p.tables e below (s₁.setTop (entryFrame m #[(.ref a7_0)] 3)) t := fun t k => castTop (ef_7 m a7_0) k
  obtain ⟨T1, X1, e1, st1⟩ := getF X0 hx hZ hown (host := "") (Or.inl (hVV 49 _ rfl)) Via.refl e0 F_offset_a7_0 (g := (mkF m 1 #[.val (.ref a7_0), .unset, .unset] [(.ref a7_0)])) rfl rfl (hb hby d7_1)
  have pre2 : ∀ t, Steps p.tables e below (T1.setTop (mkF m 4 #[.val (.ref a7_0), .unset, .unset] [(.long w7_offset_a7_0)])) t → Steps p.tables e below (s₁.setTop (entryFrame m #[(.ref a7_0)] 3)) t := fun t k => pre0 t (by
    show Steps p.tables e below (s₁.setTop (mkF m 0 #[.val (.ref a7_0), .unset, .unset] [])) _
    refine XS.aloadN X0.here hx rfl (hb hby d7_0) rfl rfl ?_
    show Steps p.tables e below (s₁.setTop (mkF m 1 #[.val (.ref a7_0), .unset, .unset] [(.ref a7_0)])) _
    refine st1 _ ?_
    exact k)
  obtain ⟨T3, X3, e3, st3⟩ := getF X1 hx hZ hown (host := "") (Or.inl (hVV 51 _ rfl)) Via.refl e1 F_limit_a7_0 (g := (mkF m 5 #[.val (.ref a7_0), .unset, .unset] [(.ref a7_0), (.long w7_offset_a7_0)])) rfl rfl (hb hby d7_5)
  have pre4 : ∀ t, Steps p.tables e below (T3.setTop (mkF m 8 #[.val (.ref a7_0), .unset, .unset] [(.long w7_limit_a7_0), (.long w7_offset_a7_0)])) t → Steps p.tables e below (s₁.setTop (entryFrame m #[(.ref a7_0)] 3)) t := fun t k => pre2 t (by
    show Steps p.tables e below (T1.setTop (mkF m 4 #[.val (.ref a7_0), .unset, .unset] [(.long w7_offset_a7_0)])) _
    refine XS.aloadN X1.here hx rfl (hb hby d7_4) rfl rfl ?_
    show Steps p.tables e below (T1.setTop (mkF m 5 #[.val (.ref a7_0), .unset, .unset] [(.ref a7_0), (.long w7_offset_a7_0)])) _
    refine st3 _ ?_
    exact k)
  have pre6 : ∀ t, Steps p.tables e below (T3.setTop (mkF m 13 #[.val (.ref a7_0), .val (.long (w7_offset_a7_0 + w7_limit_a7_0)), .second] [(.int (lcmpW (w7_offset_a7_0 + w7_limit_a7_0) (0 : Int64)))])) t → Steps p.tables e below (s₁.setTop (entryFrame m #[(.ref a7_0)] 3)) t := fun t k => pre4 t (by
    show Steps p.tables e below (T3.setTop (mkF m 8 #[.val (.ref a7_0), .unset, .unset] [(.long w7_limit_a7_0), (.long w7_offset_a7_0)])) _
    refine XS.ladd X3.here hx rfl (hb hby d7_8) rfl ?_
    show Steps p.tables e below (T3.setTop (mkF m 9 #[.val (.ref a7_0), .unset, .unset] [(.long (w7_offset_a7_0 + w7_limit_a7_0))])) _
    refine XS.lstoreN X3.here hx rfl (hb hby d7_9) rfl (l' := #[.val (.ref a7_0), .val (.long (w7_offset_a7_0 + w7_limit_a7_0)), .second]) rfl ?_
    show Steps p.tables e below (T3.setTop (mkF m 10 #[.val (.ref a7_0), .val (.long (w7_offset_a7_0 + w7_limit_a7_0)), .second] [])) _
    refine XS.lloadN X3.here hx rfl (hb hby d7_10) rfl ?_
    show Steps p.tables e below (T3.setTop (mkF m 11 #[.val (.ref a7_0), .val (.long (w7_offset_a7_0 + w7_limit_a7_0)), .second] [(.long (w7_offset_a7_0 + w7_limit_a7_0))])) _
    refine XS.lconst X3.here hx rfl (hb hby d7_11) ?_
    show Steps p.tables e below (T3.setTop (mkF m 12 #[.val (.ref a7_0), .val (.long (w7_offset_a7_0 + w7_limit_a7_0)), .second] [(.long (0 : Int64)), (.long (w7_offset_a7_0 + w7_limit_a7_0))])) _
    refine XS.lcmp X3.here hx rfl (hb hby d7_12) rfl ?_
    exact k)
  have pre7 : ∀ t, Steps p.tables e below (T3.setTop (mkF m 23 #[.val (.ref a7_0), .val (.long (w7_offset_a7_0 + w7_limit_a7_0)), .second] [(.long (if (w7_offset_a7_0 + w7_limit_a7_0) < (0 : Int64) then (9223372036854775807 : Int64) else (w7_offset_a7_0 + w7_limit_a7_0)))])) t → Steps p.tables e below (s₁.setTop (entryFrame m #[(.ref a7_0)] 3)) t := fun t k => pre6 t (by
    by_cases hc5 : (w7_offset_a7_0 + w7_limit_a7_0) < (0 : Int64)
    · show Steps p.tables e below (T3.setTop (mkF m 13 #[.val (.ref a7_0), .val (.long (w7_offset_a7_0 + w7_limit_a7_0)), .second] [(.int (lcmpW (w7_offset_a7_0 + w7_limit_a7_0) (0 : Int64)))])) _
      refine XS.ifNo X3.here hx rfl (hb hby d7_13) rfl ((if0 _ _).trans (tlt ((lw_lt _ _).mpr hc5)).2.1) ?_
      show Steps p.tables e below (T3.setTop (mkF m 16 #[.val (.ref a7_0), .val (.long (w7_offset_a7_0 + w7_limit_a7_0)), .second] [])) _
      refine X3.ldc2Long hx hown (mvT hZ (hVV 59 _ rfl)) (g := (mkF m 16 #[.val (.ref a7_0), .val (.long (w7_offset_a7_0 + w7_limit_a7_0)), .second] [])) rfl (hb hby d7_16) _ ?_
      show Steps p.tables e below (T3.setTop (mkF m 19 #[.val (.ref a7_0), .val (.long (w7_offset_a7_0 + w7_limit_a7_0)), .second] [(.long (9223372036854775807 : Int64))])) _
      refine XS.goto X3.here hx rfl (pc0 := 19) (pc' := 23) rfl (hb hby d7_19) (by decide) (by decide) ?_
      have q8 : (if (w7_offset_a7_0 + w7_limit_a7_0) < (0 : Int64) then (9223372036854775807 : Int64) else (w7_offset_a7_0 + w7_limit_a7_0)) = (9223372036854775807 : Int64) := (if_pos hc5)
      exact castTop (g := (mkF m 23 #[.val (.ref a7_0), .val (.long (w7_offset_a7_0 + w7_limit_a7_0)), .second] [(.long (9223372036854775807 : Int64))])) (g' := (mkF m 23 #[.val (.ref a7_0), .val (.long (w7_offset_a7_0 + w7_limit_a7_0)), .second] [(.long (if (w7_offset_a7_0 + w7_limit_a7_0) < (0 : Int64) then (9223372036854775807 : Int64) else (w7_offset_a7_0 + w7_limit_a7_0)))])) (by simp only [q8]) k
    · show Steps p.tables e below (T3.setTop (mkF m 13 #[.val (.ref a7_0), .val (.long (w7_offset_a7_0 + w7_limit_a7_0)), .second] [(.int (lcmpW (w7_offset_a7_0 + w7_limit_a7_0) (0 : Int64)))])) _
      refine XS.ifYes X3.here hx rfl (pc0 := 13) (pc' := 22) rfl (hb hby d7_13) rfl ((if0 _ _).trans (flt (fun q => hc5 ((lw_lt _ _).mp q))).2.1) (by decide) (by decide) ?_
      show Steps p.tables e below (T3.setTop (mkF m 22 #[.val (.ref a7_0), .val (.long (w7_offset_a7_0 + w7_limit_a7_0)), .second] [])) _
      refine XS.lloadN X3.here hx rfl (hb hby d7_22) rfl ?_
      have q9 : (if (w7_offset_a7_0 + w7_limit_a7_0) < (0 : Int64) then (9223372036854775807 : Int64) else (w7_offset_a7_0 + w7_limit_a7_0)) = (w7_offset_a7_0 + w7_limit_a7_0) := (if_neg hc5)
      exact castTop (g := (mkF m 23 #[.val (.ref a7_0), .val (.long (w7_offset_a7_0 + w7_limit_a7_0)), .second] [(.long (w7_offset_a7_0 + w7_limit_a7_0))])) (g' := (mkF m 23 #[.val (.ref a7_0), .val (.long (w7_offset_a7_0 + w7_limit_a7_0)), .second] [(.long (if (w7_offset_a7_0 + w7_limit_a7_0) < (0 : Int64) then (9223372036854775807 : Int64) else (w7_offset_a7_0 + w7_limit_a7_0)))])) (by simp only [q9]) k)
  obtain ⟨fs, hr, hrun, hended, hW, hsame⟩ := X3.leave (v := some (.long (if (w7_offset_a7_0 + w7_limit_a7_0) < (0 : Int64) then (9223372036854775807 : Int64) else (w7_offset_a7_0 + w7_limit_a7_0)))) (fun h => by rw [Bd.returns] at h; cases h)
  refine ⟨_, _, pre7 _ ?_, hrun, hended, _, _, rfl, ?_, ⟨_, rfl⟩, hW, hsame.mono (by decide) (by decide)⟩
  · show Steps p.tables e below (T3.setTop (mkF m 23 #[.val (.ref a7_0), .val (.long (w7_offset_a7_0 + w7_limit_a7_0)), .second] [(.long (if (w7_offset_a7_0 + w7_limit_a7_0) < (0 : Int64) then (9223372036854775807 : Int64) else (w7_offset_a7_0 + w7_limit_a7_0)))])) _
    jvm_step X3.here [X3.here.top, hx, (hb hby d7_23), X3.method', Bd.returns, narrow]
    first | (intro acts; rw [hr _ acts rfl rfl rfl]) | rw [hr _ _ rfl rfl rfl]
    exact Steps.refl _
  · show Q7 Z a7_0 w7_offset_a7_0 w7_limit_a7_0 h0 n0 _ T3.heap _
    rw [e3]
    exact ⟨rfl, N0, rfl⟩
theorem d8_0 : decode jdk_29_method_66_code 0 = .ok (.lload_n 0, 1) := by decide +kernel
theorem d8_1 : decode jdk_29_method_66_code 1 = .ok (.lload_n 2, 1) := by decide +kernel
theorem d8_2 : decode jdk_29_method_66_code 2 = .ok (.lcmp, 1) := by decide +kernel
theorem d8_3 : decode jdk_29_method_66_code 3 = .ok (.ifCond .lt 7, 3) := by decide +kernel
theorem d8_6 : decode jdk_29_method_66_code 6 = .ok (.lload_n 0, 1) := by decide +kernel
theorem d8_7 : decode jdk_29_method_66_code 7 = .ok (.goto 4, 3) := by decide +kernel
theorem d8_10 : decode jdk_29_method_66_code 10 = .ok (.lload_n 2, 1) := by decide +kernel
theorem d8_11 : decode jdk_29_method_66_code 11 = .ok (.lreturn, 1) := by decide +kernel
theorem ef_8 (m : MethodId) (x0 : Int64) (x1 : Int64) : entryFrame m #[(.long x0), (.long x1)] 4 = mkF m 0 #[.val (.long x0), .second, .val (.long x1), .second] [] := by first | (simp [entryFrame, mkF, argsToLocals, Value.category]; done) | rfl
def Q8 (Z : State) (q8_0 : Int64) (q8_1 : Int64) (h0 : Heap) (n0 : Nat) (v : Option Value) (h : Heap) (L : List Loc) : Prop := v = some (.long (if q8_0 < q8_1 then q8_1 else q8_0)) ∧ Fr n0 L ∧ h = h0
set_option maxRecDepth 65536 in
set_option maxHeartbeats 40000000 in
theorem rm8 (l : Launch) (Z : State) (a0 : Array Value) (hw : ∀ d ∈ tables_1, d.before a0 Z = true) (ws : List Jvm.Cond) (q8_0 : Int64) (q8_1 : Int64) (h0 : Heap) (n0 : Nat) (Z0 : n0 ≤ h0.size) :
    MetFree l (⟨"java/lang/Math", "max", "(JJ)J"⟩ : MethodName) (head1 (Jvm.Cond.code (⟨"java/lang/Math", "max", "(JJ)J"⟩ : MethodName) jdk_29_method_66_code 4 (some .long) :: ws) ({ frames := 0, cells := 0, slots := 0, locals := 0 } : Room)) (fun a U => a = #[(.long q8_0), (.long q8_1)] ∧ Z.Warmed39 U.vm ∧ U.heap = h0) (fun _ _ _ _ _ => True) (fun _ U o U' => ∃ v L, o = .returned v ∧ Q8 Z q8_0 q8_1 h0 n0 v U'.heap L ∧ FrameEnd U o U' L ({ frames := 0, cells := 0, slots := 0, locals := 0 } : Room).cells ({ frames := 0, cells := 0, slots := 0, locals := 0 } : Room).slots) := by
  refine MetFree.of_bodySF (Jvm.Free.JP.mathPlain rfl (by decide +kernel)) hisR ?_
  intro p e s m args below meth c s₁ Bd hml0 hP hK
  obtain ⟨rfl, hZ, hh⟩ := hP
  have hVV : ∀ (i : Nat) (d : Jvm.Cond), tables_1[i]? = some d → d.before a0 Z = true := fun i d h => hw d (List.mem_of_getElem? h)
  have hx := Bd.exec
  have hby := Bd.bytes
  have hml : c.maxLocals = 4 := hml0
  have hown : s.vm.findClass "java/lang/Math" = some m.cls := findClass_of_methodNamed Bd.named
  have hnm := (name_of_methodNamed Bd.named Bd.method).1
  have X0 : Stand p l e ({ frames := 0, cells := 0, slots := 0, locals := 0 } : Room) s m #[(.long q8_0), (.long q8_1)] below meth c s₁ [] 0 0 := Stand.of_body Bd
  have e0 : s₁.heap = h0 := by rw [← hh, Bd.state]; rfl
  have N0 := Fr.nil n0
  have pre0 : ∀ t, Steps p.tables e below (s₁.setTop (mkF m 0 #[.val (.long q8_0), .second, .val (.long q8_1), .second] [])) t → Steps p.tables e below (s₁.setTop (entryFrame m #[(.long q8_0), (.long q8_1)] 4)) t := fun t k => castTop (ef_8 m q8_0 q8_1) k
  have pre2 : ∀ t, Steps p.tables e below (s₁.setTop (mkF m 3 #[.val (.long q8_0), .second, .val (.long q8_1), .second] [(.int (lcmpW q8_0 q8_1))])) t → Steps p.tables e below (s₁.setTop (entryFrame m #[(.long q8_0), (.long q8_1)] 4)) t := fun t k => pre0 t (by
    show Steps p.tables e below (s₁.setTop (mkF m 0 #[.val (.long q8_0), .second, .val (.long q8_1), .second] [])) _
    refine XS.lloadN X0.here hx rfl (hb hby d8_0) rfl ?_
    show Steps p.tables e below (s₁.setTop (mkF m 1 #[.val (.long q8_0), .second, .val (.long q8_1), .second] [(.long q8_0)])) _
    refine XS.lloadN X0.here hx rfl (hb hby d8_1) rfl ?_
    show Steps p.tables e below (s₁.setTop (mkF m 2 #[.val (.long q8_0), .second, .val (.long q8_1), .second] [(.long q8_1), (.long q8_0)])) _
    refine XS.lcmp X0.here hx rfl (hb hby d8_2) rfl ?_
    exact k)
  have pre3 : ∀ t, Steps p.tables e below (s₁.setTop (mkF m 11 #[.val (.long q8_0), .second, .val (.long q8_1), .second] [(.long (if q8_0 < q8_1 then q8_1 else q8_0))])) t → Steps p.tables e below (s₁.setTop (entryFrame m #[(.long q8_0), (.long q8_1)] 4)) t := fun t k => pre2 t (by
    by_cases hc1 : q8_0 < q8_1
    · show Steps p.tables e below (s₁.setTop (mkF m 3 #[.val (.long q8_0), .second, .val (.long q8_1), .second] [(.int (lcmpW q8_0 q8_1))])) _
      refine XS.ifYes X0.here hx rfl (pc0 := 3) (pc' := 10) rfl (hb hby d8_3) rfl ((if0 _ _).trans (tlt ((lw_lt _ _).mpr hc1)).1) (by decide) (by decide) ?_
      show Steps p.tables e below (s₁.setTop (mkF m 10 #[.val (.long q8_0), .second, .val (.long q8_1), .second] [])) _
      refine XS.lloadN X0.here hx rfl (hb hby d8_10) rfl ?_
      have q4 : (if q8_0 < q8_1 then q8_1 else q8_0) = q8_1 := (if_pos hc1)
      exact castTop (g := (mkF m 11 #[.val (.long q8_0), .second, .val (.long q8_1), .second] [(.long q8_1)])) (g' := (mkF m 11 #[.val (.long q8_0), .second, .val (.long q8_1), .second] [(.long (if q8_0 < q8_1 then q8_1 else q8_0))])) (by simp only [q4]) k
    · show Steps p.tables e below (s₁.setTop (mkF m 3 #[.val (.long q8_0), .second, .val (.long q8_1), .second] [(.int (lcmpW q8_0 q8_1))])) _
      refine XS.ifNo X0.here hx rfl (hb hby d8_3) rfl ((if0 _ _).trans (flt (fun q => hc1 ((lw_lt _ _).mp q))).1) ?_
      show Steps p.tables e below (s₁.setTop (mkF m 6 #[.val (.long q8_0), .second, .val (.long q8_1), .second] [])) _
      refine XS.lloadN X0.here hx rfl (hb hby d8_6) rfl ?_
      show Steps p.tables e below (s₁.setTop (mkF m 7 #[.val (.long q8_0), .second, .val (.long q8_1), .second] [(.long q8_0)])) _
      refine XS.goto X0.here hx rfl (pc0 := 7) (pc' := 11) rfl (hb hby d8_7) (by decide) (by decide) ?_
      have q5 : (if q8_0 < q8_1 then q8_1 else q8_0) = q8_0 := (if_neg hc1)
      exact castTop (g := (mkF m 11 #[.val (.long q8_0), .second, .val (.long q8_1), .second] [(.long q8_0)])) (g' := (mkF m 11 #[.val (.long q8_0), .second, .val (.long q8_1), .second] [(.long (if q8_0 < q8_1 then q8_1 else q8_0))])) (by simp only [q5]) k)
  obtain ⟨fs, hr, hrun, hended, hW, hsame⟩ := X0.leave (v := some (.long (if q8_0 < q8_1 then q8_1 else q8_0))) (fun h => by rw [Bd.returns] at h; cases h)
  refine ⟨_, _, pre3 _ ?_, hrun, hended, _, _, rfl, ?_, ⟨_, rfl⟩, hW, hsame.mono (by decide) (by decide)⟩
  · show Steps p.tables e below (s₁.setTop (mkF m 11 #[.val (.long q8_0), .second, .val (.long q8_1), .second] [(.long (if q8_0 < q8_1 then q8_1 else q8_0))])) _
    jvm_step X0.here [X0.here.top, hx, (hb hby d8_11), X0.method', Bd.returns, narrow]
    first | (intro acts; rw [hr _ acts rfl rfl rfl]) | rw [hr _ _ rfl rfl rfl]
    exact Steps.refl _
  · show Q8 Z q8_0 q8_1 h0 n0 _ s₁.heap _
    rw [e0]
    exact ⟨rfl, N0, rfl⟩
theorem pd_1 : parseMethodDescriptor "(Ljava/util/List;Ljava/util/List;Ljava/util/List;ZLjava/util/List;JJ)V" = some ⟨[(.object "java/util/List"), (.object "java/util/List"), (.object "java/util/List"), .boolean, (.object "java/util/List"), .long, .long], none⟩ := by decide +kernel
theorem pd_2 : parseMethodDescriptor "()J" = some ⟨[], some .long⟩ := by decide +kernel
theorem pd_3 : parseMethodDescriptor "(JJ)J" = some ⟨[.long, .long], some .long⟩ := by decide +kernel
theorem pn_0 : plainName "com/example/tripleshard/tripleshard/sparql/QuerySliceEndPinLaw" = true := by first | (simp [plainName, overriddenIn]; done) | decide +kernel
theorem ef_0 (m : MethodId) (x0 : Int64) (x1 : Int64) (x2 : Int32) : entryFrame m #[(.long x0), (.long x1), (.int x2)] maxLocals = mkF m 0 #[.val (.long x0), .second, .val (.long x1), .second, .val (.int x2), .unset, .unset, .unset, .unset, .unset, .unset, .unset, .unset, .unset, .unset, .unset] [] := by first | (simp [entryFrame, mkF, argsToLocals, Value.category, maxLocals]; done) | rfl
def Q0 (Z : State) (q0_0 : Int64) (q0_1 : Int64) (p0_2 : Int32) (w0_DEFAULTCAPACITY_EMPTY_ELEMENTDATA : Addr) (h0 : Heap) (n0 : Nat) (v : Option Value) (h : Heap) (L : List Loc) : Prop := v = some (.int (1 : Int32)) ∧ Fr n0 L
set_option maxRecDepth 65536 in
set_option maxHeartbeats 40000000 in
theorem rm0 (l : Launch) (Z : State) (a0 : Array Value) (hw : ∀ d ∈ tables_1, d.before a0 Z = true) (ws : List Jvm.Cond) (q0_0 : Int64) (q0_1 : Int64) (p0_2 : Int32) (w0_DEFAULTCAPACITY_EMPTY_ELEMENTDATA : Addr) (h0 : Heap) (n0 : Nat) (Z0 : n0 ≤ h0.size) (O0 : Old Z n0 h0) (S_DEFAULTCAPACITY_EMPTY_ELEMENTDATA : Sta Z Z.heap "java/util/ArrayList" "DEFAULTCAPACITY_EMPTY_ELEMENTDATA" "[Ljava/lang/Object;" (.ref w0_DEFAULTCAPACITY_EMPTY_ELEMENTDATA)) :
    MetFree l x (head1 (Jvm.Cond.code x code maxLocals ret :: ws) room_1) (fun a U => a = #[(.long q0_0), (.long q0_1), (.int p0_2)] ∧ Z.Warmed39 U.vm ∧ U.heap = h0) (fun _ _ _ _ _ => True) (fun _ U o U' => ∃ v L, o = .returned v ∧ Q0 Z q0_0 q0_1 p0_2 w0_DEFAULTCAPACITY_EMPTY_ELEMENTDATA h0 n0 v U'.heap L ∧ FrameEnd U o U' L room_1.cells room_1.slots) := by
  refine MetFree.of_bodySF (plainFor_of_name pn_0) hisR ?_
  intro p e s m args below meth c s₁ Bd hml0 hP hK
  obtain ⟨rfl, hZ, hh⟩ := hP
  have hVV : ∀ (i : Nat) (d : Jvm.Cond), tables_1[i]? = some d → d.before a0 Z = true := fun i d h => hw d (List.mem_of_getElem? h)
  have hx := Bd.exec
  have hby := Bd.bytes
  have hml : c.maxLocals = 16 := hml0
  have hown : s.vm.findClass "com/example/tripleshard/tripleshard/sparql/QuerySliceEndPinLaw" = some m.cls := findClass_of_methodNamed Bd.named
  have hnm := (name_of_methodNamed Bd.named Bd.method).1
  have X0 : Stand p l e room_1 s m #[(.long q0_0), (.long q0_1), (.int p0_2)] below meth c s₁ [] 0 0 := Stand.of_body Bd
  have e0 : s₁.heap = h0 := by rw [← hh, Bd.state]; rfl
  have N0 := Fr.nil n0
  have pre0 : ∀ t, Steps p.tables e below (s₁.setTop (mkF m 0 #[.val (.long q0_0), .second, .val (.long q0_1), .second, .val (.int p0_2), .unset, .unset, .unset, .unset, .unset, .unset, .unset, .unset, .unset, .unset, .unset] [])) t → Steps p.tables e below (s₁.setTop (entryFrame m #[(.long q0_0), (.long q0_1), (.int p0_2)] maxLocals)) t := fun t k => castTop (ef_0 m q0_0 q0_1 p0_2) k
  have pre1 : ∀ t, Steps p.tables e below (s₁.setTop (mkF m 7 #[.val (.long q0_0), .second, .val (.long q0_1), .second, .val (.int p0_2), .val (.long (q0_0 &&& (9223372036854775807 : Int64))), .second, .unset, .unset, .unset, .unset, .unset, .unset, .unset, .unset, .unset] [])) t → Steps p.tables e below (s₁.setTop (entryFrame m #[(.long q0_0), (.long q0_1), (.int p0_2)] maxLocals)) t := fun t k => pre0 t (by
    show Steps p.tables e below (s₁.setTop (mkF m 0 #[.val (.long q0_0), .second, .val (.long q0_1), .second, .val (.int p0_2), .unset, .unset, .unset, .unset, .unset, .unset, .unset, .unset, .unset, .unset, .unset] [])) _
    refine XS.lloadN X0.here hx rfl (hb hby at_0) rfl ?_
    show Steps p.tables e below (s₁.setTop (mkF m 1 #[.val (.long q0_0), .second, .val (.long q0_1), .second, .val (.int p0_2), .unset, .unset, .unset, .unset, .unset, .unset, .unset, .unset, .unset, .unset, .unset] [(.long q0_0)])) _
    refine X0.ldc2Long hx hown (mvT hZ (hVV 0 _ rfl)) (g := (mkF m 1 #[.val (.long q0_0), .second, .val (.long q0_1), .second, .val (.int p0_2), .unset, .unset, .unset, .unset, .unset, .unset, .unset, .unset, .unset, .unset, .unset] [(.long q0_0)])) rfl (hb hby at_1) _ ?_
    show Steps p.tables e below (s₁.setTop (mkF m 4 #[.val (.long q0_0), .second, .val (.long q0_1), .second, .val (.int p0_2), .unset, .unset, .unset, .unset, .unset, .unset, .unset, .unset, .unset, .unset, .unset] [(.long (9223372036854775807 : Int64)), (.long q0_0)])) _
    refine XS.land X0.here hx rfl (hb hby at_4) rfl ?_
    show Steps p.tables e below (s₁.setTop (mkF m 5 #[.val (.long q0_0), .second, .val (.long q0_1), .second, .val (.int p0_2), .unset, .unset, .unset, .unset, .unset, .unset, .unset, .unset, .unset, .unset, .unset] [(.long (q0_0 &&& (9223372036854775807 : Int64)))])) _
    refine XS.lstore X0.here hx rfl (hb hby at_5) rfl (l' := #[.val (.long q0_0), .second, .val (.long q0_1), .second, .val (.int p0_2), .val (.long (q0_0 &&& (9223372036854775807 : Int64))), .second, .unset, .unset, .unset, .unset, .unset, .unset, .unset, .unset, .unset]) rfl ?_
    exact k)
  obtain ⟨OFF, hOFF⟩ : ∃ z : Int64, z = (q0_0 &&& (9223372036854775807 : Int64)) := ⟨_, rfl⟩
  have pre2 : ∀ t, Steps p.tables e below (s₁.setTop (mkF m 7 #[.val (.long q0_0), .second, .val (.long q0_1), .second, .val (.int p0_2), .val (.long OFF), .second, .unset, .unset, .unset, .unset, .unset, .unset, .unset, .unset, .unset] [])) t → Steps p.tables e below (s₁.setTop (entryFrame m #[(.long q0_0), (.long q0_1), (.int p0_2)] maxLocals)) t := fun t k => pre1 t (castTop (by rw [hOFF]) k)
  have hOFF0 : 0 ≤ OFF.toInt := by
    rw [hOFF]
    exact own_mask _
  have pre3 : ∀ t, Steps p.tables e below (s₁.setTop (mkF m 21 #[.val (.long q0_0), .second, .val (.long q0_1), .second, .val (.int p0_2), .val (.long OFF), .second, .val (.int (p0_2 &&& (3 : Int32))), .val (.long ((9223372036854775807 : Int64) - OFF)), .second, .unset, .unset, .unset, .unset, .unset, .unset] [])) t → Steps p.tables e below (s₁.setTop (entryFrame m #[(.long q0_0), (.long q0_1), (.int p0_2)] maxLocals)) t := fun t k => pre2 t (by
    show Steps p.tables e below (s₁.setTop (mkF m 7 #[.val (.long q0_0), .second, .val (.long q0_1), .second, .val (.int p0_2), .val (.long OFF), .second, .unset, .unset, .unset, .unset, .unset, .unset, .unset, .unset, .unset] [])) _
    refine XS.iload X0.here hx rfl (hb hby at_7) rfl ?_
    show Steps p.tables e below (s₁.setTop (mkF m 9 #[.val (.long q0_0), .second, .val (.long q0_1), .second, .val (.int p0_2), .val (.long OFF), .second, .unset, .unset, .unset, .unset, .unset, .unset, .unset, .unset, .unset] [(.int p0_2)])) _
    refine XS.iconst X0.here hx rfl (hb hby at_9) ?_
    show Steps p.tables e below (s₁.setTop (mkF m 10 #[.val (.long q0_0), .second, .val (.long q0_1), .second, .val (.int p0_2), .val (.long OFF), .second, .unset, .unset, .unset, .unset, .unset, .unset, .unset, .unset, .unset] [(.int (3 : Int32)), (.int p0_2)])) _
    refine XS.iand X0.here hx rfl (hb hby at_10) rfl ?_
    show Steps p.tables e below (s₁.setTop (mkF m 11 #[.val (.long q0_0), .second, .val (.long q0_1), .second, .val (.int p0_2), .val (.long OFF), .second, .unset, .unset, .unset, .unset, .unset, .unset, .unset, .unset, .unset] [(.int (p0_2 &&& (3 : Int32)))])) _
    refine XS.istore X0.here hx rfl (hb hby at_11) rfl (l' := #[.val (.long q0_0), .second, .val (.long q0_1), .second, .val (.int p0_2), .val (.long OFF), .second, .val (.int (p0_2 &&& (3 : Int32))), .unset, .unset, .unset, .unset, .unset, .unset, .unset, .unset]) rfl ?_
    show Steps p.tables e below (s₁.setTop (mkF m 13 #[.val (.long q0_0), .second, .val (.long q0_1), .second, .val (.int p0_2), .val (.long OFF), .second, .val (.int (p0_2 &&& (3 : Int32))), .unset, .unset, .unset, .unset, .unset, .unset, .unset, .unset] [])) _
    refine X0.ldc2Long hx hown (mvT hZ (hVV 0 _ rfl)) (g := (mkF m 13 #[.val (.long q0_0), .second, .val (.long q0_1), .second, .val (.int p0_2), .val (.long OFF), .second, .val (.int (p0_2 &&& (3 : Int32))), .unset, .unset, .unset, .unset, .unset, .unset, .unset, .unset] [])) rfl (hb hby at_13) _ ?_
    show Steps p.tables e below (s₁.setTop (mkF m 16 #[.val (.long q0_0), .second, .val (.long q0_1), .second, .val (.int p0_2), .val (.long OFF), .second, .val (.int (p0_2 &&& (3 : Int32))), .unset, .unset, .unset, .unset, .unset, .unset, .unset, .unset] [(.long (9223372036854775807 : Int64))])) _
    refine XS.lload X0.here hx rfl (hb hby at_16) rfl ?_
    show Steps p.tables e below (s₁.setTop (mkF m 18 #[.val (.long q0_0), .second, .val (.long q0_1), .second, .val (.int p0_2), .val (.long OFF), .second, .val (.int (p0_2 &&& (3 : Int32))), .unset, .unset, .unset, .unset, .unset, .unset, .unset, .unset] [(.long OFF), (.long (9223372036854775807 : Int64))])) _
    refine XS.lsub X0.here hx rfl (hb hby at_18) rfl ?_
    show Steps p.tables e below (s₁.setTop (mkF m 19 #[.val (.long q0_0), .second, .val (.long q0_1), .second, .val (.int p0_2), .val (.long OFF), .second, .val (.int (p0_2 &&& (3 : Int32))), .unset, .unset, .unset, .unset, .unset, .unset, .unset, .unset] [(.long ((9223372036854775807 : Int64) - OFF))])) _
    refine XS.lstore X0.here hx rfl (hb hby at_19) rfl (l' := #[.val (.long q0_0), .second, .val (.long q0_1), .second, .val (.int p0_2), .val (.long OFF), .second, .val (.int (p0_2 &&& (3 : Int32))), .val (.long ((9223372036854775807 : Int64) - OFF)), .second, .unset, .unset, .unset, .unset, .unset, .unset]) rfl ?_
    exact k)
  obtain ⟨ROOM, hROOM⟩ : ∃ z : Int64, z = ((9223372036854775807 : Int64) - OFF) := ⟨_, rfl⟩
  have pre4 : ∀ t, Steps p.tables e below (s₁.setTop (mkF m 21 #[.val (.long q0_0), .second, .val (.long q0_1), .second, .val (.int p0_2), .val (.long OFF), .second, .val (.int (p0_2 &&& (3 : Int32))), .val (.long ROOM), .second, .unset, .unset, .unset, .unset, .unset, .unset] [])) t → Steps p.tables e below (s₁.setTop (entryFrame m #[(.long q0_0), (.long q0_1), (.int p0_2)] maxLocals)) t := fun t k => pre3 t (castTop (by rw [hROOM]) k)
  by_cases hc7 : (p0_2 &&& (3 : Int32)) = (0 : Int32)
  · have pre8 : ∀ t, Steps p.tables e below (s₁.setTop (mkF m 108 #[.val (.long q0_0), .second, .val (.long q0_1), .second, .val (.int p0_2), .val (.long OFF), .second, .val (.int (p0_2 &&& (3 : Int32))), .val (.long ROOM), .second, .val (.long (q0_1 &&& (9223372036854775807 : Int64))), .second, .unset, .unset, .unset, .unset] [])) t → Steps p.tables e below (s₁.setTop (entryFrame m #[(.long q0_0), (.long q0_1), (.int p0_2)] maxLocals)) t := fun t k => pre4 t (by
      show Steps p.tables e below (s₁.setTop (mkF m 21 #[.val (.long q0_0), .second, .val (.long q0_1), .second, .val (.int p0_2), .val (.long OFF), .second, .val (.int (p0_2 &&& (3 : Int32))), .val (.long ROOM), .second, .unset, .unset, .unset, .unset, .unset, .unset] [])) _
      refine XS.iload X0.here hx rfl (hb hby at_21) rfl ?_
      show Steps p.tables e below (s₁.setTop (mkF m 23 #[.val (.long q0_0), .second, .val (.long q0_1), .second, .val (.int p0_2), .val (.long OFF), .second, .val (.int (p0_2 &&& (3 : Int32))), .val (.long ROOM), .second, .unset, .unset, .unset, .unset, .unset, .unset] [(.int (p0_2 &&& (3 : Int32)))])) _
      refine XS.ifNo X0.here hx rfl (hb hby at_23) rfl ((if0 _ _).trans (teq hc7).2) ?_
      show Steps p.tables e below (s₁.setTop (mkF m 26 #[.val (.long q0_0), .second, .val (.long q0_1), .second, .val (.int p0_2), .val (.long OFF), .second, .val (.int (p0_2 &&& (3 : Int32))), .val (.long ROOM), .second, .unset, .unset, .unset, .unset, .unset, .unset] [])) _
      refine XS.lloadN X0.here hx rfl (hb hby at_26) rfl ?_
      show Steps p.tables e below (s₁.setTop (mkF m 27 #[.val (.long q0_0), .second, .val (.long q0_1), .second, .val (.int p0_2), .val (.long OFF), .second, .val (.int (p0_2 &&& (3 : Int32))), .val (.long ROOM), .second, .unset, .unset, .unset, .unset, .unset, .unset] [(.long q0_1)])) _
      refine X0.ldc2Long hx hown (mvT hZ (hVV 0 _ rfl)) (g := (mkF m 27 #[.val (.long q0_0), .second, .val (.long q0_1), .second, .val (.int p0_2), .val (.long OFF), .second, .val (.int (p0_2 &&& (3 : Int32))), .val (.long ROOM), .second, .unset, .unset, .unset, .unset, .unset, .unset] [(.long q0_1)])) rfl (hb hby at_27) _ ?_
      show Steps p.tables e below (s₁.setTop (mkF m 30 #[.val (.long q0_0), .second, .val (.long q0_1), .second, .val (.int p0_2), .val (.long OFF), .second, .val (.int (p0_2 &&& (3 : Int32))), .val (.long ROOM), .second, .unset, .unset, .unset, .unset, .unset, .unset] [(.long (9223372036854775807 : Int64)), (.long q0_1)])) _
      refine XS.land X0.here hx rfl (hb hby at_30) rfl ?_
      show Steps p.tables e below (s₁.setTop (mkF m 31 #[.val (.long q0_0), .second, .val (.long q0_1), .second, .val (.int p0_2), .val (.long OFF), .second, .val (.int (p0_2 &&& (3 : Int32))), .val (.long ROOM), .second, .unset, .unset, .unset, .unset, .unset, .unset] [(.long (q0_1 &&& (9223372036854775807 : Int64)))])) _
      refine XS.lstore X0.here hx rfl (hb hby at_31) rfl (l' := #[.val (.long q0_0), .second, .val (.long q0_1), .second, .val (.int p0_2), .val (.long OFF), .second, .val (.int (p0_2 &&& (3 : Int32))), .val (.long ROOM), .second, .val (.long (q0_1 &&& (9223372036854775807 : Int64))), .second, .unset, .unset, .unset, .unset]) rfl ?_
      show Steps p.tables e below (s₁.setTop (mkF m 33 #[.val (.long q0_0), .second, .val (.long q0_1), .second, .val (.int p0_2), .val (.long OFF), .second, .val (.int (p0_2 &&& (3 : Int32))), .val (.long ROOM), .second, .val (.long (q0_1 &&& (9223372036854775807 : Int64))), .second, .unset, .unset, .unset, .unset] [])) _
      refine XS.goto X0.here hx rfl (pc0 := 33) (pc' := 108) rfl (hb hby at_33) (by decide) (by decide) ?_
      exact k)
    obtain ⟨LIM, hLIM⟩ : ∃ z : Int64, z = (q0_1 &&& (9223372036854775807 : Int64)) := ⟨_, rfl⟩
    have pre9 : ∀ t, Steps p.tables e below (s₁.setTop (mkF m 108 #[.val (.long q0_0), .second, .val (.long q0_1), .second, .val (.int p0_2), .val (.long OFF), .second, .val (.int (p0_2 &&& (3 : Int32))), .val (.long ROOM), .second, .val (.long LIM), .second, .unset, .unset, .unset, .unset] [])) t → Steps p.tables e below (s₁.setTop (entryFrame m #[(.long q0_0), (.long q0_1), (.int p0_2)] maxLocals)) t := fun t k => pre8 t (castTop (by rw [hLIM]) k)
    have hLIM0 : 0 ≤ LIM.toInt := by
      rw [hLIM]
      exact own_mask _
    have pre11 : ∀ t, Steps p.tables e below (s₁.setTop (mkF m 112 #[.val (.long q0_0), .second, .val (.long q0_1), .second, .val (.int p0_2), .val (.long OFF), .second, .val (.int (p0_2 &&& (3 : Int32))), .val (.long ROOM), .second, .val (.long LIM), .second, .unset, .unset, .unset, .unset] [(.int (p0_2 &&& (4 : Int32)))])) t → Steps p.tables e below (s₁.setTop (entryFrame m #[(.long q0_0), (.long q0_1), (.int p0_2)] maxLocals)) t := fun t k => pre9 t (by
      show Steps p.tables e below (s₁.setTop (mkF m 108 #[.val (.long q0_0), .second, .val (.long q0_1), .second, .val (.int p0_2), .val (.long OFF), .second, .val (.int (p0_2 &&& (3 : Int32))), .val (.long ROOM), .second, .val (.long LIM), .second, .unset, .unset, .unset, .unset] [])) _
      refine XS.iload X0.here hx rfl (hb hby at_108) rfl ?_
      show Steps p.tables e below (s₁.setTop (mkF m 110 #[.val (.long q0_0), .second, .val (.long q0_1), .second, .val (.int p0_2), .val (.long OFF), .second, .val (.int (p0_2 &&& (3 : Int32))), .val (.long ROOM), .second, .val (.long LIM), .second, .unset, .unset, .unset, .unset] [(.int p0_2)])) _
      refine XS.iconst X0.here hx rfl (hb hby at_110) ?_
      show Steps p.tables e below (s₁.setTop (mkF m 111 #[.val (.long q0_0), .second, .val (.long q0_1), .second, .val (.int p0_2), .val (.long OFF), .second, .val (.int (p0_2 &&& (3 : Int32))), .val (.long ROOM), .second, .val (.long LIM), .second, .unset, .unset, .unset, .unset] [(.int (4 : Int32)), (.int p0_2)])) _
      refine XS.iand X0.here hx rfl (hb hby at_111) rfl ?_
      exact k)
    have pre12 : ∀ t, Steps p.tables e below (s₁.setTop (mkF m 120 #[.val (.long q0_0), .second, .val (.long q0_1), .second, .val (.int p0_2), .val (.long OFF), .second, .val (.int (p0_2 &&& (3 : Int32))), .val (.long ROOM), .second, .val (.long LIM), .second, .unset, .unset, .unset, .unset] [(.int (bI (¬ ((p0_2 &&& (4 : Int32)) = (0 : Int32)))))])) t → Steps p.tables e below (s₁.setTop (entryFrame m #[(.long q0_0), (.long q0_1), (.int p0_2)] maxLocals)) t := fun t k => pre11 t (by
      by_cases hc10 : (p0_2 &&& (4 : Int32)) = (0 : Int32)
      · show Steps p.tables e below (s₁.setTop (mkF m 112 #[.val (.long q0_0), .second, .val (.long q0_1), .second, .val (.int p0_2), .val (.long OFF), .second, .val (.int (p0_2 &&& (3 : Int32))), .val (.long ROOM), .second, .val (.long LIM), .second, .unset, .unset, .unset, .unset] [(.int (p0_2 &&& (4 : Int32)))])) _
        refine XS.ifYes X0.here hx rfl (pc0 := 112) (pc' := 119) rfl (hb hby at_112) rfl ((if0 _ _).trans (teq hc10).1) (by decide) (by decide) ?_
        show Steps p.tables e below (s₁.setTop (mkF m 119 #[.val (.long q0_0), .second, .val (.long q0_1), .second, .val (.int p0_2), .val (.long OFF), .second, .val (.int (p0_2 &&& (3 : Int32))), .val (.long ROOM), .second, .val (.long LIM), .second, .unset, .unset, .unset, .unset] [])) _
        refine XS.iconst X0.here hx rfl (hb hby at_119) ?_
        have q13 : (bI (¬ ((p0_2 &&& (4 : Int32)) = (0 : Int32)))) = (0 : Int32) := (bI_f (fun q => q hc10))
        exact castTop (g := (mkF m 120 #[.val (.long q0_0), .second, .val (.long q0_1), .second, .val (.int p0_2), .val (.long OFF), .second, .val (.int (p0_2 &&& (3 : Int32))), .val (.long ROOM), .second, .val (.long LIM), .second, .unset, .unset, .unset, .unset] [(.int (0 : Int32))])) (g' := (mkF m 120 #[.val (.long q0_0), .second, .val (.long q0_1), .second, .val (.int p0_2), .val (.long OFF), .second, .val (.int (p0_2 &&& (3 : Int32))), .val (.long ROOM), .second, .val (.long LIM), .second, .unset, .unset, .unset, .unset] [(.int (bI (¬ ((p0_2 &&& (4 : Int32)) = (0 : Int32)))))])) (by simp only [q13]) k
      · show Steps p.tables e below (s₁.setTop (mkF m 112 #[.val (.long q0_0), .second, .val (.long q0_1), .second, .val (.int p0_2), .val (.long OFF), .second, .val (.int (p0_2 &&& (3 : Int32))), .val (.long ROOM), .second, .val (.long LIM), .second, .unset, .unset, .unset, .unset] [(.int (p0_2 &&& (4 : Int32)))])) _
        refine XS.ifNo X0.here hx rfl (hb hby at_112) rfl ((if0 _ _).trans (feq hc10).1) ?_
        show Steps p.tables e below (s₁.setTop (mkF m 115 #[.val (.long q0_0), .second, .val (.long q0_1), .second, .val (.int p0_2), .val (.long OFF), .second, .val (.int (p0_2 &&& (3 : Int32))), .val (.long ROOM), .second, .val (.long LIM), .second, .unset, .unset, .unset, .unset] [])) _
        refine XS.iconst X0.here hx rfl (hb hby at_115) ?_
        show Steps p.tables e below (s₁.setTop (mkF m 116 #[.val (.long q0_0), .second, .val (.long q0_1), .second, .val (.int p0_2), .val (.long OFF), .second, .val (.int (p0_2 &&& (3 : Int32))), .val (.long ROOM), .second, .val (.long LIM), .second, .unset, .unset, .unset, .unset] [(.int (1 : Int32))])) _
        refine XS.goto X0.here hx rfl (pc0 := 116) (pc' := 120) rfl (hb hby at_116) (by decide) (by decide) ?_
        have q14 : (bI (¬ ((p0_2 &&& (4 : Int32)) = (0 : Int32)))) = (1 : Int32) := (bI_t hc10)
        exact castTop (g := (mkF m 120 #[.val (.long q0_0), .second, .val (.long q0_1), .second, .val (.int p0_2), .val (.long OFF), .second, .val (.int (p0_2 &&& (3 : Int32))), .val (.long ROOM), .second, .val (.long LIM), .second, .unset, .unset, .unset, .unset] [(.int (1 : Int32))])) (g' := (mkF m 120 #[.val (.long q0_0), .second, .val (.long q0_1), .second, .val (.int p0_2), .val (.long OFF), .second, .val (.int (p0_2 &&& (3 : Int32))), .val (.long ROOM), .second, .val (.long LIM), .second, .unset, .unset, .unset, .unset] [(.int (bI (¬ ((p0_2 &&& (4 : Int32)) = (0 : Int32)))))])) (by simp only [q14]) k)
    obtain ⟨T15, h15, X15, e15, E15, A15, D15, -, st15⟩ := newO X0 hx hZ hown (hVV 1 _ rfl) (hVV 2 _ rfl) (hVV 3 _ rfl) e0 (g := (mkF m 122 #[.val (.long q0_0), .second, .val (.long q0_1), .second, .val (.int p0_2), .val (.long OFF), .second, .val (.int (p0_2 &&& (3 : Int32))), .val (.long ROOM), .second, .val (.long LIM), .second, .val (.int (bI (¬ ((p0_2 &&& (4 : Int32)) = (0 : Int32))))), .unset, .unset, .unset] [])) rfl (hb hby at_122) (by decide) (by decide)
    obtain ⟨b15, g15⟩ : ∃ z, z = h0.size := ⟨_, rfl⟩
    rw [← g15] at A15 D15 st15
    have gz15 : n0 ≤ b15 := Nat.le_trans Z0 (Nat.le_of_eq g15.symm)
    have pre16 : ∀ t, Steps p.tables e below (T15.setTop (mkF m 125 #[.val (.long q0_0), .second, .val (.long q0_1), .second, .val (.int p0_2), .val (.long OFF), .second, .val (.int (p0_2 &&& (3 : Int32))), .val (.long ROOM), .second, .val (.long LIM), .second, .val (.int (bI (¬ ((p0_2 &&& (4 : Int32)) = (0 : Int32))))), .unset, .unset, .unset] [(.ref b15)])) t → Steps p.tables e below (s₁.setTop (entryFrame m #[(.long q0_0), (.long q0_1), (.int p0_2)] maxLocals)) t := fun t k => pre12 t (by
      show Steps p.tables e below (s₁.setTop (mkF m 120 #[.val (.long q0_0), .second, .val (.long q0_1), .second, .val (.int p0_2), .val (.long OFF), .second, .val (.int (p0_2 &&& (3 : Int32))), .val (.long ROOM), .second, .val (.long LIM), .second, .unset, .unset, .unset, .unset] [(.int (bI (¬ ((p0_2 &&& (4 : Int32)) = (0 : Int32)))))])) _
      refine XS.istore X0.here hx rfl (hb hby at_120) rfl (l' := #[.val (.long q0_0), .second, .val (.long q0_1), .second, .val (.int p0_2), .val (.long OFF), .second, .val (.int (p0_2 &&& (3 : Int32))), .val (.long ROOM), .second, .val (.long LIM), .second, .val (.int (bI (¬ ((p0_2 &&& (4 : Int32)) = (0 : Int32))))), .unset, .unset, .unset]) rfl ?_
      show Steps p.tables e below (s₁.setTop (mkF m 122 #[.val (.long q0_0), .second, .val (.long q0_1), .second, .val (.int p0_2), .val (.long OFF), .second, .val (.int (p0_2 &&& (3 : Int32))), .val (.long ROOM), .second, .val (.long LIM), .second, .val (.int (bI (¬ ((p0_2 &&& (4 : Int32)) = (0 : Int32))))), .unset, .unset, .unset] [])) _
      refine st15 _ ?_
      exact k)
    have z17 := Nat.le_trans Z0 E15.1
    have o18 := O0.ext E15
    have f19 : Fld Z h15 b15 "com/example/tripleshard/tripleshard/sparql/Query" "projection" "Ljava/util/List;" .null := D15 (Or.inr (hVV 40 _ rfl)) (ty := (.object "java/util/List")) (by decide)
    have f20 : Fld Z h15 b15 "com/example/tripleshard/tripleshard/sparql/Query" "patterns" "Ljava/util/List;" .null := D15 (Or.inr (hVV 42 _ rfl)) (ty := (.object "java/util/List")) (by decide)
    have f21 : Fld Z h15 b15 "com/example/tripleshard/tripleshard/sparql/Query" "filters" "Ljava/util/List;" .null := D15 (Or.inr (hVV 44 _ rfl)) (ty := (.object "java/util/List")) (by decide)
    have f22 : Fld Z h15 b15 "com/example/tripleshard/tripleshard/sparql/Query" "distinct" "Z" (.int (0 : Int32)) := D15 (Or.inr (hVV 46 _ rfl)) (ty := .boolean) (by decide)
    have f23 : Fld Z h15 b15 "com/example/tripleshard/tripleshard/sparql/Query" "orderBy" "Ljava/util/List;" .null := D15 (Or.inr (hVV 48 _ rfl)) (ty := (.object "java/util/List")) (by decide)
    have f24 : Fld Z h15 b15 "com/example/tripleshard/tripleshard/sparql/Query" "offset" "J" (.long (0 : Int64)) := D15 (Or.inr (hVV 50 _ rfl)) (ty := .long) (by decide)
    have f25 : Fld Z h15 b15 "com/example/tripleshard/tripleshard/sparql/Query" "limit" "J" (.long (0 : Int64)) := D15 (Or.inr (hVV 52 _ rfl)) (ty := .long) (by decide)
    obtain ⟨T26, h26, X26, e26, E26, A26, D26, -, st26⟩ := newO X15 hx hZ hown (hVV 4 _ rfl) (hVV 5 _ rfl) (hVV 6 _ rfl) e15 (g := (mkF m 126 #[.val (.long q0_0), .second, .val (.long q0_1), .second, .val (.int p0_2), .val (.long OFF), .second, .val (.int (p0_2 &&& (3 : Int32))), .val (.long ROOM), .second, .val (.long LIM), .second, .val (.int (bI (¬ ((p0_2 &&& (4 : Int32)) = (0 : Int32))))), .unset, .unset, .unset] [(.ref b15), (.ref b15)])) rfl (hb hby at_126) (by decide) (by decide)
    obtain ⟨b26, g26⟩ : ∃ z, z = h15.size := ⟨_, rfl⟩
    rw [← g26] at A26 D26 st26
    have gz26 : n0 ≤ b26 := Nat.le_trans z17 (Nat.le_of_eq g26.symm)
    have ne27 : b15 ≠ b26 := Nat.ne_of_lt (Nat.lt_of_lt_of_le A15.lt (Nat.le_of_eq g26.symm))
    have pre28 : ∀ t, Steps p.tables e below (T26.setTop (mkF m 129 #[.val (.long q0_0), .second, .val (.long q0_1), .second, .val (.int p0_2), .val (.long OFF), .second, .val (.int (p0_2 &&& (3 : Int32))), .val (.long ROOM), .second, .val (.long LIM), .second, .val (.int (bI (¬ ((p0_2 &&& (4 : Int32)) = (0 : Int32))))), .unset, .unset, .unset] [(.ref b26), (.ref b15), (.ref b15)])) t → Steps p.tables e below (s₁.setTop (entryFrame m #[(.long q0_0), (.long q0_1), (.int p0_2)] maxLocals)) t := fun t k => pre16 t (by
      show Steps p.tables e below (T15.setTop (mkF m 125 #[.val (.long q0_0), .second, .val (.long q0_1), .second, .val (.int p0_2), .val (.long OFF), .second, .val (.int (p0_2 &&& (3 : Int32))), .val (.long ROOM), .second, .val (.long LIM), .second, .val (.int (bI (¬ ((p0_2 &&& (4 : Int32)) = (0 : Int32))))), .unset, .unset, .unset] [(.ref b15)])) _
      refine XS.dup X15.here hx rfl (hb hby at_125) rfl rfl ?_
      show Steps p.tables e below (T15.setTop (mkF m 126 #[.val (.long q0_0), .second, .val (.long q0_1), .second, .val (.int p0_2), .val (.long OFF), .second, .val (.int (p0_2 &&& (3 : Int32))), .val (.long ROOM), .second, .val (.long LIM), .second, .val (.int (bI (¬ ((p0_2 &&& (4 : Int32)) = (0 : Int32))))), .unset, .unset, .unset] [(.ref b15), (.ref b15)])) _
      refine st26 _ ?_
      exact k)
    have f29 := A15.ext E26
    have f30 := f19.ext E26
    have f31 := f20.ext E26
    have f32 := f21.ext E26
    have f33 := f22.ext E26
    have f34 := f23.ext E26
    have f35 := f24.ext E26
    have f36 := f25.ext E26
    have z37 := Nat.le_trans z17 E26.1
    have o38 := o18.ext E26
    have f39 : Fld Z h26 b26 "java/util/AbstractList" "modCount" "I" (.int (0 : Int32)) := D26 (Or.inl (hVV 26 _ rfl)) (ty := .int) (by decide)
    have f40 : Fld Z h26 b26 "java/util/ArrayList" "elementData" "[Ljava/lang/Object;" .null := D26 (Or.inl (hVV 29 _ rfl)) (ty := (.array (.object "java/lang/Object"))) (by decide)
    obtain ⟨_, _, ⟨T41, L41, k41, n41⟩, -, X41, ⟨Lc41, hQ41, l41, y41, z41⟩, st41⟩ := X26.specialBack hx (y := (⟨"java/util/ArrayList", "<init>", "()V"⟩ : MethodName)) rfl hown (mvT hZ (hVV 7 _ rfl)) (mvT hZ (hVV 8 _ rfl)) (mvT hZ (hVV 9 _ rfl)) (by decide) (backOf (W := 3) (rm1 l Z a0 hw [] b26 (0 : Int32) .null w0_DEFAULTCAPACITY_EMPTY_ELEMENTDATA h26 n0 z37 o38 A26 f39 f40 gz26 S_DEFAULTCAPACITY_EMPTY_ELEMENTDATA) hZ (hVV 9 _ rfl) (hVV 6 _ rfl) (by decide) (by decide)) (g := (mkF m 130 #[.val (.long q0_0), .second, .val (.long q0_1), .second, .val (.int p0_2), .val (.long OFF), .second, .val (.int (p0_2 &&& (3 : Int32))), .val (.long ROOM), .second, .val (.long LIM), .second, .val (.int (bI (¬ ((p0_2 &&& (4 : Int32)) = (0 : Int32))))), .unset, .unset, .unset] [(.ref b26), (.ref b26), (.ref b15), (.ref b15)])) rfl (by rw [hml]; rfl) (Steps.refl _) (a := b26) (argsL := []) (rest := [(.ref b26), (.ref b15), (.ref b15)]) (lenOf pd_0 rfl) rfl (by show 2 * 0 + _ ≤ _; exact Nat.le_of_eq rfl) (hb hby at_130) (fun _ _ => ⟨rfl, e26, (by decide : 2 + 0 ≤ _), (by decide : 10 + 0 ≤ _)⟩)
    dsimp only [Pt.U, Pt.locs, Pt.cells, Pt.slots] at X41 l41 y41 z41 st41 hQ41
    subst l41 y41 z41
    obtain ⟨rfl, N41q, K41, r41_0, r41_1, r41_2⟩ := hQ41
    have N42 := Fr.app N0 N41q
    have pre43 : ∀ t, Steps p.tables e below (T41.setTop (mkF m 133 #[.val (.long q0_0), .second, .val (.long q0_1), .second, .val (.int p0_2), .val (.long OFF), .second, .val (.int (p0_2 &&& (3 : Int32))), .val (.long ROOM), .second, .val (.long LIM), .second, .val (.int (bI (¬ ((p0_2 &&& (4 : Int32)) = (0 : Int32))))), .unset, .unset, .unset] [(.ref b26), (.ref b15), (.ref b15)])) t → Steps p.tables e below (s₁.setTop (entryFrame m #[(.long q0_0), (.long q0_1), (.int p0_2)] maxLocals)) t := fun t k => pre28 t (by
      show Steps p.tables e below (T26.setTop (mkF m 129 #[.val (.long q0_0), .second, .val (.long q0_1), .second, .val (.int p0_2), .val (.long OFF), .second, .val (.int (p0_2 &&& (3 : Int32))), .val (.long ROOM), .second, .val (.long LIM), .second, .val (.int (bI (¬ ((p0_2 &&& (4 : Int32)) = (0 : Int32))))), .unset, .unset, .unset] [(.ref b26), (.ref b15), (.ref b15)])) _
      refine XS.dup X26.here hx rfl (hb hby at_129) rfl rfl ?_
      show Steps p.tables e below (T26.setTop (mkF m 130 #[.val (.long q0_0), .second, .val (.long q0_1), .second, .val (.int p0_2), .val (.long OFF), .second, .val (.int (p0_2 &&& (3 : Int32))), .val (.long ROOM), .second, .val (.long LIM), .second, .val (.int (bI (¬ ((p0_2 &&& (4 : Int32)) = (0 : Int32))))), .unset, .unset, .unset] [(.ref b26), (.ref b26), (.ref b15), (.ref b15)])) _
      refine st41.trans ?_
      exact k)
    have f44 := f29.keep K41
    have f45 := f30.keep K41 (ninS ne27 nin0)
    have f46 := f31.keep K41 (ninS ne27 nin0)
    have f47 := f32.keep K41 (ninS ne27 nin0)
    have f48 := f33.keep K41 (ninS ne27 nin0)
    have f49 := f34.keep K41 (ninS ne27 nin0)
    have f50 := f35.keep K41 (ninS ne27 nin0)
    have f51 := f36.keep K41 (ninS ne27 nin0)
    have f52 := A26.keep K41
    have z53 := Nat.le_trans z37 K41.1
    have o54 := o38.keep K41 (allS gz26 all0)
    obtain ⟨T55, h55, X55, e55, E55, A55, D55, -, st55⟩ := newO X41 hx hZ hown (hVV 4 _ rfl) (hVV 5 _ rfl) (hVV 6 _ rfl) rfl (g := (mkF m 133 #[.val (.long q0_0), .second, .val (.long q0_1), .second, .val (.int p0_2), .val (.long OFF), .second, .val (.int (p0_2 &&& (3 : Int32))), .val (.long ROOM), .second, .val (.long LIM), .second, .val (.int (bI (¬ ((p0_2 &&& (4 : Int32)) = (0 : Int32))))), .unset, .unset, .unset] [(.ref b26), (.ref b15), (.ref b15)])) rfl (hb hby at_133) (by decide) (by decide)
    obtain ⟨b55, g55⟩ : ∃ z, z = T41.heap.size := ⟨_, rfl⟩
    rw [← g55] at A55 D55 st55
    have gz55 : n0 ≤ b55 := Nat.le_trans z53 (Nat.le_of_eq g55.symm)
    have ne56 : b15 ≠ b55 := Nat.ne_of_lt (Nat.lt_of_lt_of_le f44.lt (Nat.le_of_eq g55.symm))
    have ne57 : b26 ≠ b55 := Nat.ne_of_lt (Nat.lt_of_lt_of_le r41_0.lt (Nat.le_of_eq g55.symm))
    have pre58 : ∀ t, Steps p.tables e below (T55.setTop (mkF m 136 #[.val (.long q0_0), .second, .val (.long q0_1), .second, .val (.int p0_2), .val (.long OFF), .second, .val (.int (p0_2 &&& (3 : Int32))), .val (.long ROOM), .second, .val (.long LIM), .second, .val (.int (bI (¬ ((p0_2 &&& (4 : Int32)) = (0 : Int32))))), .unset, .unset, .unset] [(.ref b55), (.ref b26), (.ref b15), (.ref b15)])) t → Steps p.tables e below (s₁.setTop (entryFrame m #[(.long q0_0), (.long q0_1), (.int p0_2)] maxLocals)) t := fun t k => pre43 t (by
      show Steps p.tables e below (T41.setTop (mkF m 133 #[.val (.long q0_0), .second, .val (.long q0_1), .second, .val (.int p0_2), .val (.long OFF), .second, .val (.int (p0_2 &&& (3 : Int32))), .val (.long ROOM), .second, .val (.long LIM), .second, .val (.int (bI (¬ ((p0_2 &&& (4 : Int32)) = (0 : Int32))))), .unset, .unset, .unset] [(.ref b26), (.ref b15), (.ref b15)])) _
      refine st55 _ ?_
      exact k)
    have f59 := f44.ext E55
    have f60 := f45.ext E55
    have f61 := f46.ext E55
    have f62 := f47.ext E55
    have f63 := f48.ext E55
    have f64 := f49.ext E55
    have f65 := f50.ext E55
    have f66 := f51.ext E55
    have f67 := r41_0.ext E55
    have f68 := r41_1.ext E55
    have f69 := r41_2.ext E55
    have z70 := Nat.le_trans z53 E55.1
    have o71 := o54.ext E55
    have f72 : Fld Z h55 b55 "java/util/AbstractList" "modCount" "I" (.int (0 : Int32)) := D55 (Or.inl (hVV 26 _ rfl)) (ty := .int) (by decide)
    have f73 : Fld Z h55 b55 "java/util/ArrayList" "elementData" "[Ljava/lang/Object;" .null := D55 (Or.inl (hVV 29 _ rfl)) (ty := (.array (.object "java/lang/Object"))) (by decide)
    obtain ⟨_, _, ⟨T74, L74, k74, n74⟩, -, X74, ⟨Lc74, hQ74, l74, y74, z74⟩, st74⟩ := X55.specialBack hx (y := (⟨"java/util/ArrayList", "<init>", "()V"⟩ : MethodName)) rfl hown (mvT hZ (hVV 7 _ rfl)) (mvT hZ (hVV 8 _ rfl)) (mvT hZ (hVV 9 _ rfl)) (by decide) (backOf (W := 4) (rm1 l Z a0 hw [] b55 (0 : Int32) .null w0_DEFAULTCAPACITY_EMPTY_ELEMENTDATA h55 n0 z70 o71 A55 f72 f73 gz55 S_DEFAULTCAPACITY_EMPTY_ELEMENTDATA) hZ (hVV 9 _ rfl) (hVV 6 _ rfl) (by decide) (by decide)) (g := (mkF m 137 #[.val (.long q0_0), .second, .val (.long q0_1), .second, .val (.int p0_2), .val (.long OFF), .second, .val (.int (p0_2 &&& (3 : Int32))), .val (.long ROOM), .second, .val (.long LIM), .second, .val (.int (bI (¬ ((p0_2 &&& (4 : Int32)) = (0 : Int32))))), .unset, .unset, .unset] [(.ref b55), (.ref b55), (.ref b26), (.ref b15), (.ref b15)])) rfl (by rw [hml]; rfl) (Steps.refl _) (a := b55) (argsL := []) (rest := [(.ref b55), (.ref b26), (.ref b15), (.ref b15)]) (lenOf pd_0 rfl) rfl (by show 2 * 0 + _ ≤ _; exact Nat.le_of_eq rfl) (hb hby at_137) (fun _ _ => ⟨rfl, e55, (by decide : 3 + 0 ≤ _), (by decide : 13 + 0 ≤ _)⟩)
    dsimp only [Pt.U, Pt.locs, Pt.cells, Pt.slots] at X74 l74 y74 z74 st74 hQ74
    subst l74 y74 z74
    obtain ⟨rfl, N74q, K74, r74_0, r74_1, r74_2⟩ := hQ74
    have N75 := Fr.app N42 N74q
    have pre76 : ∀ t, Steps p.tables e below (T74.setTop (mkF m 140 #[.val (.long q0_0), .second, .val (.long q0_1), .second, .val (.int p0_2), .val (.long OFF), .second, .val (.int (p0_2 &&& (3 : Int32))), .val (.long ROOM), .second, .val (.long LIM), .second, .val (.int (bI (¬ ((p0_2 &&& (4 : Int32)) = (0 : Int32))))), .unset, .unset, .unset] [(.ref b55), (.ref b26), (.ref b15), (.ref b15)])) t → Steps p.tables e below (s₁.setTop (entryFrame m #[(.long q0_0), (.long q0_1), (.int p0_2)] maxLocals)) t := fun t k => pre58 t (by
      show Steps p.tables e below (T55.setTop (mkF m 136 #[.val (.long q0_0), .second, .val (.long q0_1), .second, .val (.int p0_2), .val (.long OFF), .second, .val (.int (p0_2 &&& (3 : Int32))), .val (.long ROOM), .second, .val (.long LIM), .second, .val (.int (bI (¬ ((p0_2 &&& (4 : Int32)) = (0 : Int32))))), .unset, .unset, .unset] [(.ref b55), (.ref b26), (.ref b15), (.ref b15)])) _
      refine XS.dup X55.here hx rfl (hb hby at_136) rfl rfl ?_
      show Steps p.tables e below (T55.setTop (mkF m 137 #[.val (.long q0_0), .second, .val (.long q0_1), .second, .val (.int p0_2), .val (.long OFF), .second, .val (.int (p0_2 &&& (3 : Int32))), .val (.long ROOM), .second, .val (.long LIM), .second, .val (.int (bI (¬ ((p0_2 &&& (4 : Int32)) = (0 : Int32))))), .unset, .unset, .unset] [(.ref b55), (.ref b55), (.ref b26), (.ref b15), (.ref b15)])) _
      refine st74.trans ?_
      exact k)
    have f77 := f59.keep K74
    have f78 := f60.keep K74 (ninS ne56 nin0)
    have f79 := f61.keep K74 (ninS ne56 nin0)
    have f80 := f62.keep K74 (ninS ne56 nin0)
    have f81 := f63.keep K74 (ninS ne56 nin0)
    have f82 := f64.keep K74 (ninS ne56 nin0)
    have f83 := f65.keep K74 (ninS ne56 nin0)
    have f84 := f66.keep K74 (ninS ne56 nin0)
    have f85 := f67.keep K74
    have f86 := f68.keep K74 (ninS ne57 nin0)
    have f87 := f69.keep K74 (ninS ne57 nin0)
    have f88 := A55.keep K74
    have z89 := Nat.le_trans z70 K74.1
    have o90 := o71.keep K74 (allS gz55 all0)
    obtain ⟨T91, h91, X91, e91, E91, A91, D91, -, st91⟩ := newO X74 hx hZ hown (hVV 4 _ rfl) (hVV 5 _ rfl) (hVV 6 _ rfl) rfl (g := (mkF m 140 #[.val (.long q0_0), .second, .val (.long q0_1), .second, .val (.int p0_2), .val (.long OFF), .second, .val (.int (p0_2 &&& (3 : Int32))), .val (.long ROOM), .second, .val (.long LIM), .second, .val (.int (bI (¬ ((p0_2 &&& (4 : Int32)) = (0 : Int32))))), .unset, .unset, .unset] [(.ref b55), (.ref b26), (.ref b15), (.ref b15)])) rfl (hb hby at_140) (by decide) (by decide)
    obtain ⟨b91, g91⟩ : ∃ z, z = T74.heap.size := ⟨_, rfl⟩
    rw [← g91] at A91 D91 st91
    have gz91 : n0 ≤ b91 := Nat.le_trans z89 (Nat.le_of_eq g91.symm)
    have ne92 : b15 ≠ b91 := Nat.ne_of_lt (Nat.lt_of_lt_of_le f77.lt (Nat.le_of_eq g91.symm))
    have ne93 : b26 ≠ b91 := Nat.ne_of_lt (Nat.lt_of_lt_of_le f85.lt (Nat.le_of_eq g91.symm))
    have ne94 : b55 ≠ b91 := Nat.ne_of_lt (Nat.lt_of_lt_of_le r74_0.lt (Nat.le_of_eq g91.symm))
    have pre95 : ∀ t, Steps p.tables e below (T91.setTop (mkF m 143 #[.val (.long q0_0), .second, .val (.long q0_1), .second, .val (.int p0_2), .val (.long OFF), .second, .val (.int (p0_2 &&& (3 : Int32))), .val (.long ROOM), .second, .val (.long LIM), .second, .val (.int (bI (¬ ((p0_2 &&& (4 : Int32)) = (0 : Int32))))), .unset, .unset, .unset] [(.ref b91), (.ref b55), (.ref b26), (.ref b15), (.ref b15)])) t → Steps p.tables e below (s₁.setTop (entryFrame m #[(.long q0_0), (.long q0_1), (.int p0_2)] maxLocals)) t := fun t k => pre76 t (by
      show Steps p.tables e below (T74.setTop (mkF m 140 #[.val (.long q0_0), .second, .val (.long q0_1), .second, .val (.int p0_2), .val (.long OFF), .second, .val (.int (p0_2 &&& (3 : Int32))), .val (.long ROOM), .second, .val (.long LIM), .second, .val (.int (bI (¬ ((p0_2 &&& (4 : Int32)) = (0 : Int32))))), .unset, .unset, .unset] [(.ref b55), (.ref b26), (.ref b15), (.ref b15)])) _
      refine st91 _ ?_
      exact k)
    have f96 := f77.ext E91
    have f97 := f78.ext E91
    have f98 := f79.ext E91
    have f99 := f80.ext E91
    have f100 := f81.ext E91
    have f101 := f82.ext E91
    have f102 := f83.ext E91
    have f103 := f84.ext E91
    have f104 := f85.ext E91
    have f105 := f86.ext E91
    have f106 := f87.ext E91
    have f107 := r74_0.ext E91
    have f108 := r74_1.ext E91
    have f109 := r74_2.ext E91
    have z110 := Nat.le_trans z89 E91.1
    have o111 := o90.ext E91
    have f112 : Fld Z h91 b91 "java/util/AbstractList" "modCount" "I" (.int (0 : Int32)) := D91 (Or.inl (hVV 26 _ rfl)) (ty := .int) (by decide)
    have f113 : Fld Z h91 b91 "java/util/ArrayList" "elementData" "[Ljava/lang/Object;" .null := D91 (Or.inl (hVV 29 _ rfl)) (ty := (.array (.object "java/lang/Object"))) (by decide)
    obtain ⟨_, _, ⟨T114, L114, k114, n114⟩, -, X114, ⟨Lc114, hQ114, l114, y114, z114⟩, st114⟩ := X91.specialBack hx (y := (⟨"java/util/ArrayList", "<init>", "()V"⟩ : MethodName)) rfl hown (mvT hZ (hVV 7 _ rfl)) (mvT hZ (hVV 8 _ rfl)) (mvT hZ (hVV 9 _ rfl)) (by decide) (backOf (W := 5) (rm1 l Z a0 hw [] b91 (0 : Int32) .null w0_DEFAULTCAPACITY_EMPTY_ELEMENTDATA h91 n0 z110 o111 A91 f112 f113 gz91 S_DEFAULTCAPACITY_EMPTY_ELEMENTDATA) hZ (hVV 9 _ rfl) (hVV 6 _ rfl) (by decide) (by decide)) (g := (mkF m 144 #[.val (.long q0_0), .second, .val (.long q0_1), .second, .val (.int p0_2), .val (.long OFF), .second, .val (.int (p0_2 &&& (3 : Int32))), .val (.long ROOM), .second, .val (.long LIM), .second, .val (.int (bI (¬ ((p0_2 &&& (4 : Int32)) = (0 : Int32))))), .unset, .unset, .unset] [(.ref b91), (.ref b91), (.ref b55), (.ref b26), (.ref b15), (.ref b15)])) rfl (by rw [hml]; rfl) (Steps.refl _) (a := b91) (argsL := []) (rest := [(.ref b91), (.ref b55), (.ref b26), (.ref b15), (.ref b15)]) (lenOf pd_0 rfl) rfl (by show 2 * 0 + _ ≤ _; exact Nat.le_of_eq rfl) (hb hby at_144) (fun _ _ => ⟨rfl, e91, (by decide : 4 + 0 ≤ _), (by decide : 16 + 0 ≤ _)⟩)
    dsimp only [Pt.U, Pt.locs, Pt.cells, Pt.slots] at X114 l114 y114 z114 st114 hQ114
    subst l114 y114 z114
    obtain ⟨rfl, N114q, K114, r114_0, r114_1, r114_2⟩ := hQ114
    have N115 := Fr.app N75 N114q
    have pre116 : ∀ t, Steps p.tables e below (T114.setTop (mkF m 147 #[.val (.long q0_0), .second, .val (.long q0_1), .second, .val (.int p0_2), .val (.long OFF), .second, .val (.int (p0_2 &&& (3 : Int32))), .val (.long ROOM), .second, .val (.long LIM), .second, .val (.int (bI (¬ ((p0_2 &&& (4 : Int32)) = (0 : Int32))))), .unset, .unset, .unset] [(.ref b91), (.ref b55), (.ref b26), (.ref b15), (.ref b15)])) t → Steps p.tables e below (s₁.setTop (entryFrame m #[(.long q0_0), (.long q0_1), (.int p0_2)] maxLocals)) t := fun t k => pre95 t (by
      show Steps p.tables e below (T91.setTop (mkF m 143 #[.val (.long q0_0), .second, .val (.long q0_1), .second, .val (.int p0_2), .val (.long OFF), .second, .val (.int (p0_2 &&& (3 : Int32))), .val (.long ROOM), .second, .val (.long LIM), .second, .val (.int (bI (¬ ((p0_2 &&& (4 : Int32)) = (0 : Int32))))), .unset, .unset, .unset] [(.ref b91), (.ref b55), (.ref b26), (.ref b15), (.ref b15)])) _
      refine XS.dup X91.here hx rfl (hb hby at_143) rfl rfl ?_
      show Steps p.tables e below (T91.setTop (mkF m 144 #[.val (.long q0_0), .second, .val (.long q0_1), .second, .val (.int p0_2), .val (.long OFF), .second, .val (.int (p0_2 &&& (3 : Int32))), .val (.long ROOM), .second, .val (.long LIM), .second, .val (.int (bI (¬ ((p0_2 &&& (4 : Int32)) = (0 : Int32))))), .unset, .unset, .unset] [(.ref b91), (.ref b91), (.ref b55), (.ref b26), (.ref b15), (.ref b15)])) _
      refine st114.trans ?_
      exact k)
    have f117 := f96.keep K114
    have f118 := f97.keep K114 (ninS ne92 nin0)
    have f119 := f98.keep K114 (ninS ne92 nin0)
    have f120 := f99.keep K114 (ninS ne92 nin0)
    have f121 := f100.keep K114 (ninS ne92 nin0)
    have f122 := f101.keep K114 (ninS ne92 nin0)
    have f123 := f102.keep K114 (ninS ne92 nin0)
    have f124 := f103.keep K114 (ninS ne92 nin0)
    have f125 := f104.keep K114
    have f126 := f105.keep K114 (ninS ne93 nin0)
    have f127 := f106.keep K114 (ninS ne93 nin0)
    have f128 := f107.keep K114
    have f129 := f108.keep K114 (ninS ne94 nin0)
    have f130 := f109.keep K114 (ninS ne94 nin0)
    have f131 := A91.keep K114
    have z132 := Nat.le_trans z110 K114.1
    have o133 := o111.keep K114 (allS gz91 all0)
    obtain ⟨T134, h134, X134, e134, E134, A134, D134, -, st134⟩ := newO X114 hx hZ hown (hVV 4 _ rfl) (hVV 5 _ rfl) (hVV 6 _ rfl) rfl (g := (mkF m 149 #[.val (.long q0_0), .second, .val (.long q0_1), .second, .val (.int p0_2), .val (.long OFF), .second, .val (.int (p0_2 &&& (3 : Int32))), .val (.long ROOM), .second, .val (.long LIM), .second, .val (.int (bI (¬ ((p0_2 &&& (4 : Int32)) = (0 : Int32))))), .unset, .unset, .unset] [(.int (bI (¬ ((p0_2 &&& (4 : Int32)) = (0 : Int32))))), (.ref b91), (.ref b55), (.ref b26), (.ref b15), (.ref b15)])) rfl (hb hby at_149) (by decide) (by decide)
    obtain ⟨b134, g134⟩ : ∃ z, z = T114.heap.size := ⟨_, rfl⟩
    rw [← g134] at A134 D134 st134
    have gz134 : n0 ≤ b134 := Nat.le_trans z132 (Nat.le_of_eq g134.symm)
    have ne135 : b15 ≠ b134 := Nat.ne_of_lt (Nat.lt_of_lt_of_le f117.lt (Nat.le_of_eq g134.symm))
    have ne136 : b26 ≠ b134 := Nat.ne_of_lt (Nat.lt_of_lt_of_le f125.lt (Nat.le_of_eq g134.symm))
    have ne137 : b55 ≠ b134 := Nat.ne_of_lt (Nat.lt_of_lt_of_le f128.lt (Nat.le_of_eq g134.symm))
    have ne138 : b91 ≠ b134 := Nat.ne_of_lt (Nat.lt_of_lt_of_le r114_0.lt (Nat.le_of_eq g134.symm))
    have pre139 : ∀ t, Steps p.tables e below (T134.setTop (mkF m 152 #[.val (.long q0_0), .second, .val (.long q0_1), .second, .val (.int p0_2), .val (.long OFF), .second, .val (.int (p0_2 &&& (3 : Int32))), .val (.long ROOM), .second, .val (.long LIM), .second, .val (.int (bI (¬ ((p0_2 &&& (4 : Int32)) = (0 : Int32))))), .unset, .unset, .unset] [(.ref b134), (.int (bI (¬ ((p0_2 &&& (4 : Int32)) = (0 : Int32))))), (.ref b91), (.ref b55), (.ref b26), (.ref b15), (.ref b15)])) t → Steps p.tables e below (s₁.setTop (entryFrame m #[(.long q0_0), (.long q0_1), (.int p0_2)] maxLocals)) t := fun t k => pre116 t (by
      show Steps p.tables e below (T114.setTop (mkF m 147 #[.val (.long q0_0), .second, .val (.long q0_1), .second, .val (.int p0_2), .val (.long OFF), .second, .val (.int (p0_2 &&& (3 : Int32))), .val (.long ROOM), .second, .val (.long LIM), .second, .val (.int (bI (¬ ((p0_2 &&& (4 : Int32)) = (0 : Int32))))), .unset, .unset, .unset] [(.ref b91), (.ref b55), (.ref b26), (.ref b15), (.ref b15)])) _
      refine XS.iload X114.here hx rfl (hb hby at_147) rfl ?_
      show Steps p.tables e below (T114.setTop (mkF m 149 #[.val (.long q0_0), .second, .val (.long q0_1), .second, .val (.int p0_2), .val (.long OFF), .second, .val (.int (p0_2 &&& (3 : Int32))), .val (.long ROOM), .second, .val (.long LIM), .second, .val (.int (bI (¬ ((p0_2 &&& (4 : Int32)) = (0 : Int32))))), .unset, .unset, .unset] [(.int (bI (¬ ((p0_2 &&& (4 : Int32)) = (0 : Int32))))), (.ref b91), (.ref b55), (.ref b26), (.ref b15), (.ref b15)])) _
      refine st134 _ ?_
      exact k)
    have f140 := f117.ext E134
    have f141 := f118.ext E134
    have f142 := f119.ext E134
    have f143 := f120.ext E134
    have f144 := f121.ext E134
    have f145 := f122.ext E134
    have f146 := f123.ext E134
    have f147 := f124.ext E134
    have f148 := f125.ext E134
    have f149 := f126.ext E134
    have f150 := f127.ext E134
    have f151 := f128.ext E134
    have f152 := f129.ext E134
    have f153 := f130.ext E134
    have f154 := r114_0.ext E134
    have f155 := r114_1.ext E134
    have f156 := r114_2.ext E134
    have z157 := Nat.le_trans z132 E134.1
    have o158 := o133.ext E134
    have f159 : Fld Z h134 b134 "java/util/AbstractList" "modCount" "I" (.int (0 : Int32)) := D134 (Or.inl (hVV 26 _ rfl)) (ty := .int) (by decide)
    have f160 : Fld Z h134 b134 "java/util/ArrayList" "elementData" "[Ljava/lang/Object;" .null := D134 (Or.inl (hVV 29 _ rfl)) (ty := (.array (.object "java/lang/Object"))) (by decide)
    obtain ⟨_, _, ⟨T161, L161, k161, n161⟩, -, X161, ⟨Lc161, hQ161, l161, y161, z161⟩, st161⟩ := X134.specialBack hx (y := (⟨"java/util/ArrayList", "<init>", "()V"⟩ : MethodName)) rfl hown (mvT hZ (hVV 7 _ rfl)) (mvT hZ (hVV 8 _ rfl)) (mvT hZ (hVV 9 _ rfl)) (by decide) (backOf (W := 7) (rm1 l Z a0 hw [] b134 (0 : Int32) .null w0_DEFAULTCAPACITY_EMPTY_ELEMENTDATA h134 n0 z157 o158 A134 f159 f160 gz134 S_DEFAULTCAPACITY_EMPTY_ELEMENTDATA) hZ (hVV 9 _ rfl) (hVV 6 _ rfl) (by decide) (by decide)) (g := (mkF m 153 #[.val (.long q0_0), .second, .val (.long q0_1), .second, .val (.int p0_2), .val (.long OFF), .second, .val (.int (p0_2 &&& (3 : Int32))), .val (.long ROOM), .second, .val (.long LIM), .second, .val (.int (bI (¬ ((p0_2 &&& (4 : Int32)) = (0 : Int32))))), .unset, .unset, .unset] [(.ref b134), (.ref b134), (.int (bI (¬ ((p0_2 &&& (4 : Int32)) = (0 : Int32))))), (.ref b91), (.ref b55), (.ref b26), (.ref b15), (.ref b15)])) rfl (by rw [hml]; rfl) (Steps.refl _) (a := b134) (argsL := []) (rest := [(.ref b134), (.int (bI (¬ ((p0_2 &&& (4 : Int32)) = (0 : Int32))))), (.ref b91), (.ref b55), (.ref b26), (.ref b15), (.ref b15)]) (lenOf pd_0 rfl) rfl (by show 2 * 0 + _ ≤ _; exact Nat.le_of_eq rfl) (hb hby at_153) (fun _ _ => ⟨rfl, e134, (by decide : 5 + 0 ≤ _), (by decide : 19 + 0 ≤ _)⟩)
    dsimp only [Pt.U, Pt.locs, Pt.cells, Pt.slots] at X161 l161 y161 z161 st161 hQ161
    subst l161 y161 z161
    obtain ⟨rfl, N161q, K161, r161_0, r161_1, r161_2⟩ := hQ161
    have N162 := Fr.app N115 N161q
    have pre163 : ∀ t, Steps p.tables e below (T161.setTop (mkF m 156 #[.val (.long q0_0), .second, .val (.long q0_1), .second, .val (.int p0_2), .val (.long OFF), .second, .val (.int (p0_2 &&& (3 : Int32))), .val (.long ROOM), .second, .val (.long LIM), .second, .val (.int (bI (¬ ((p0_2 &&& (4 : Int32)) = (0 : Int32))))), .unset, .unset, .unset] [(.ref b134), (.int (bI (¬ ((p0_2 &&& (4 : Int32)) = (0 : Int32))))), (.ref b91), (.ref b55), (.ref b26), (.ref b15), (.ref b15)])) t → Steps p.tables e below (s₁.setTop (entryFrame m #[(.long q0_0), (.long q0_1), (.int p0_2)] maxLocals)) t := fun t k => pre139 t (by
      show Steps p.tables e below (T134.setTop (mkF m 152 #[.val (.long q0_0), .second, .val (.long q0_1), .second, .val (.int p0_2), .val (.long OFF), .second, .val (.int (p0_2 &&& (3 : Int32))), .val (.long ROOM), .second, .val (.long LIM), .second, .val (.int (bI (¬ ((p0_2 &&& (4 : Int32)) = (0 : Int32))))), .unset, .unset, .unset] [(.ref b134), (.int (bI (¬ ((p0_2 &&& (4 : Int32)) = (0 : Int32))))), (.ref b91), (.ref b55), (.ref b26), (.ref b15), (.ref b15)])) _
      refine XS.dup X134.here hx rfl (hb hby at_152) rfl rfl ?_
      show Steps p.tables e below (T134.setTop (mkF m 153 #[.val (.long q0_0), .second, .val (.long q0_1), .second, .val (.int p0_2), .val (.long OFF), .second, .val (.int (p0_2 &&& (3 : Int32))), .val (.long ROOM), .second, .val (.long LIM), .second, .val (.int (bI (¬ ((p0_2 &&& (4 : Int32)) = (0 : Int32))))), .unset, .unset, .unset] [(.ref b134), (.ref b134), (.int (bI (¬ ((p0_2 &&& (4 : Int32)) = (0 : Int32))))), (.ref b91), (.ref b55), (.ref b26), (.ref b15), (.ref b15)])) _
      refine st161.trans ?_
      exact k)
    have f164 := f140.keep K161
    have f165 := f141.keep K161 (ninS ne135 nin0)
    have f166 := f142.keep K161 (ninS ne135 nin0)
    have f167 := f143.keep K161 (ninS ne135 nin0)
    have f168 := f144.keep K161 (ninS ne135 nin0)
    have f169 := f145.keep K161 (ninS ne135 nin0)
    have f170 := f146.keep K161 (ninS ne135 nin0)
    have f171 := f147.keep K161 (ninS ne135 nin0)
    have f172 := f148.keep K161
    have f173 := f149.keep K161 (ninS ne136 nin0)
    have f174 := f150.keep K161 (ninS ne136 nin0)
    have f175 := f151.keep K161
    have f176 := f152.keep K161 (ninS ne137 nin0)
    have f177 := f153.keep K161 (ninS ne137 nin0)
    have f178 := f154.keep K161
    have f179 := f155.keep K161 (ninS ne138 nin0)
    have f180 := f156.keep K161 (ninS ne138 nin0)
    have f181 := A134.keep K161
    have z182 := Nat.le_trans z157 K161.1
    have o183 := o158.keep K161 (allS gz134 all0)
    obtain ⟨_, _, ⟨T184, L184, k184, n184⟩, -, X184, ⟨Lc184, hQ184, l184, y184, z184⟩, st184⟩ := X161.specialBack hx (y := (⟨"com/example/tripleshard/tripleshard/sparql/Query", "<init>", "(Ljava/util/List;Ljava/util/List;Ljava/util/List;ZLjava/util/List;JJ)V"⟩ : MethodName)) rfl hown (mvT hZ (hVV 30 _ rfl)) (mvT hZ (hVV 31 _ rfl)) (mvT hZ (hVV 32 _ rfl)) (by decide) (backOf (W := 1) (rm5 l Z a0 hw [] b15 b26 b55 b91 (bI (¬ ((p0_2 &&& (4 : Int32)) = (0 : Int32)))) b134 OFF LIM .null .null .null (0 : Int32) .null (0 : Int64) (0 : Int64) T161.heap n0 z182 f164 f165 f166 f167 f168 f169 f170 f171 gz15) hZ (hVV 32 _ rfl) (hVV 3 _ rfl) (by decide) (by decide)) (g := (mkF m 160 #[.val (.long q0_0), .second, .val (.long q0_1), .second, .val (.int p0_2), .val (.long OFF), .second, .val (.int (p0_2 &&& (3 : Int32))), .val (.long ROOM), .second, .val (.long LIM), .second, .val (.int (bI (¬ ((p0_2 &&& (4 : Int32)) = (0 : Int32))))), .unset, .unset, .unset] [(.long LIM), (.long OFF), (.ref b134), (.int (bI (¬ ((p0_2 &&& (4 : Int32)) = (0 : Int32))))), (.ref b91), (.ref b55), (.ref b26), (.ref b15), (.ref b15)])) rfl (by rw [hml]; rfl) (Steps.refl _) (a := b15) (argsL := [(.ref b26), (.ref b55), (.ref b91), (.int (bI (¬ ((p0_2 &&& (4 : Int32)) = (0 : Int32))))), (.ref b134), (.long OFF), (.long LIM)]) (rest := [(.ref b15)]) (lenOf pd_1 rfl) rfl (by show 2 * 0 + _ ≤ _; exact Nat.le_of_eq rfl) (hb hby at_160) (fun _ _ => ⟨rfl, rfl, (by decide : 5 + 0 ≤ _), (by decide : 19 + 0 ≤ _)⟩)
    dsimp only [Pt.U, Pt.locs, Pt.cells, Pt.slots] at X184 l184 y184 z184 st184 hQ184
    subst l184 y184 z184
    obtain ⟨rfl, N184q, K184, r184_0, r184_1, r184_2, r184_3, r184_4, r184_5, r184_6, r184_7⟩ := hQ184
    have N185 := Fr.app N162 N184q
    have pre186 : ∀ t, Steps p.tables e below (T184.setTop (mkF m 163 #[.val (.long q0_0), .second, .val (.long q0_1), .second, .val (.int p0_2), .val (.long OFF), .second, .val (.int (p0_2 &&& (3 : Int32))), .val (.long ROOM), .second, .val (.long LIM), .second, .val (.int (bI (¬ ((p0_2 &&& (4 : Int32)) = (0 : Int32))))), .unset, .unset, .unset] [(.ref b15)])) t → Steps p.tables e below (s₁.setTop (entryFrame m #[(.long q0_0), (.long q0_1), (.int p0_2)] maxLocals)) t := fun t k => pre163 t (by
      show Steps p.tables e below (T161.setTop (mkF m 156 #[.val (.long q0_0), .second, .val (.long q0_1), .second, .val (.int p0_2), .val (.long OFF), .second, .val (.int (p0_2 &&& (3 : Int32))), .val (.long ROOM), .second, .val (.long LIM), .second, .val (.int (bI (¬ ((p0_2 &&& (4 : Int32)) = (0 : Int32))))), .unset, .unset, .unset] [(.ref b134), (.int (bI (¬ ((p0_2 &&& (4 : Int32)) = (0 : Int32))))), (.ref b91), (.ref b55), (.ref b26), (.ref b15), (.ref b15)])) _
      refine XS.lload X161.here hx rfl (hb hby at_156) rfl ?_
      show Steps p.tables e below (T161.setTop (mkF m 158 #[.val (.long q0_0), .second, .val (.long q0_1), .second, .val (.int p0_2), .val (.long OFF), .second, .val (.int (p0_2 &&& (3 : Int32))), .val (.long ROOM), .second, .val (.long LIM), .second, .val (.int (bI (¬ ((p0_2 &&& (4 : Int32)) = (0 : Int32))))), .unset, .unset, .unset] [(.long OFF), (.ref b134), (.int (bI (¬ ((p0_2 &&& (4 : Int32)) = (0 : Int32))))), (.ref b91), (.ref b55), (.ref b26), (.ref b15), (.ref b15)])) _
      refine XS.lload X161.here hx rfl (hb hby at_158) rfl ?_
      show Steps p.tables e below (T161.setTop (mkF m 160 #[.val (.long q0_0), .second, .val (.long q0_1), .second, .val (.int p0_2), .val (.long OFF), .second, .val (.int (p0_2 &&& (3 : Int32))), .val (.long ROOM), .second, .val (.long LIM), .second, .val (.int (bI (¬ ((p0_2 &&& (4 : Int32)) = (0 : Int32))))), .unset, .unset, .unset] [(.long LIM), (.long OFF), (.ref b134), (.int (bI (¬ ((p0_2 &&& (4 : Int32)) = (0 : Int32))))), (.ref b91), (.ref b55), (.ref b26), (.ref b15), (.ref b15)])) _
      refine st184.trans ?_
      exact k)
    have f187 := f164.keep K184
    have f188 := f172.keep K184
    have f189 := f173.keep K184 (ninS (Ne.symm ne27) nin0)
    have f190 := f174.keep K184 (ninS (Ne.symm ne27) nin0)
    have f191 := f175.keep K184
    have f192 := f176.keep K184 (ninS (Ne.symm ne56) nin0)
    have f193 := f177.keep K184 (ninS (Ne.symm ne56) nin0)
    have f194 := f178.keep K184
    have f195 := f179.keep K184 (ninS (Ne.symm ne92) nin0)
    have f196 := f180.keep K184 (ninS (Ne.symm ne92) nin0)
    have f197 := r161_0.keep K184
    have f198 := r161_1.keep K184 (ninS (Ne.symm ne135) nin0)
    have f199 := r161_2.keep K184 (ninS (Ne.symm ne135) nin0)
    have z200 := Nat.le_trans z182 K184.1
    have o201 := o183.keep K184 (allS gz15 all0)
    have pre203 : ∀ t, Steps p.tables e below (T184.setTop (mkF m 174 #[.val (.long q0_0), .second, .val (.long q0_1), .second, .val (.int p0_2), .val (.long OFF), .second, .val (.int (p0_2 &&& (3 : Int32))), .val (.long ROOM), .second, .val (.long LIM), .second, .val (.int (bI (¬ ((p0_2 &&& (4 : Int32)) = (0 : Int32))))), .val (.ref b15), .unset, .unset] [(.int (lcmpW OFF ((9223372036854775807 : Int64) - LIM)))])) t → Steps p.tables e below (s₁.setTop (entryFrame m #[(.long q0_0), (.long q0_1), (.int p0_2)] maxLocals)) t := fun t k => pre186 t (by
      show Steps p.tables e below (T184.setTop (mkF m 163 #[.val (.long q0_0), .second, .val (.long q0_1), .second, .val (.int p0_2), .val (.long OFF), .second, .val (.int (p0_2 &&& (3 : Int32))), .val (.long ROOM), .second, .val (.long LIM), .second, .val (.int (bI (¬ ((p0_2 &&& (4 : Int32)) = (0 : Int32))))), .unset, .unset, .unset] [(.ref b15)])) _
      refine XS.astore X184.here hx rfl (hb hby at_163) rfl rfl (l' := #[.val (.long q0_0), .second, .val (.long q0_1), .second, .val (.int p0_2), .val (.long OFF), .second, .val (.int (p0_2 &&& (3 : Int32))), .val (.long ROOM), .second, .val (.long LIM), .second, .val (.int (bI (¬ ((p0_2 &&& (4 : Int32)) = (0 : Int32))))), .val (.ref b15), .unset, .unset]) rfl ?_
      show Steps p.tables e below (T184.setTop (mkF m 165 #[.val (.long q0_0), .second, .val (.long q0_1), .second, .val (.int p0_2), .val (.long OFF), .second, .val (.int (p0_2 &&& (3 : Int32))), .val (.long ROOM), .second, .val (.long LIM), .second, .val (.int (bI (¬ ((p0_2 &&& (4 : Int32)) = (0 : Int32))))), .val (.ref b15), .unset, .unset] [])) _
      refine XS.lload X184.here hx rfl (hb hby at_165) rfl ?_
      show Steps p.tables e below (T184.setTop (mkF m 167 #[.val (.long q0_0), .second, .val (.long q0_1), .second, .val (.int p0_2), .val (.long OFF), .second, .val (.int (p0_2 &&& (3 : Int32))), .val (.long ROOM), .second, .val (.long LIM), .second, .val (.int (bI (¬ ((p0_2 &&& (4 : Int32)) = (0 : Int32))))), .val (.ref b15), .unset, .unset] [(.long OFF)])) _
      refine X184.ldc2Long hx hown (mvT hZ (hVV 0 _ rfl)) (g := (mkF m 167 #[.val (.long q0_0), .second, .val (.long q0_1), .second, .val (.int p0_2), .val (.long OFF), .second, .val (.int (p0_2 &&& (3 : Int32))), .val (.long ROOM), .second, .val (.long LIM), .second, .val (.int (bI (¬ ((p0_2 &&& (4 : Int32)) = (0 : Int32))))), .val (.ref b15), .unset, .unset] [(.long OFF)])) rfl (hb hby at_167) _ ?_
      show Steps p.tables e below (T184.setTop (mkF m 170 #[.val (.long q0_0), .second, .val (.long q0_1), .second, .val (.int p0_2), .val (.long OFF), .second, .val (.int (p0_2 &&& (3 : Int32))), .val (.long ROOM), .second, .val (.long LIM), .second, .val (.int (bI (¬ ((p0_2 &&& (4 : Int32)) = (0 : Int32))))), .val (.ref b15), .unset, .unset] [(.long (9223372036854775807 : Int64)), (.long OFF)])) _
      refine XS.lload X184.here hx rfl (hb hby at_170) rfl ?_
      show Steps p.tables e below (T184.setTop (mkF m 172 #[.val (.long q0_0), .second, .val (.long q0_1), .second, .val (.int p0_2), .val (.long OFF), .second, .val (.int (p0_2 &&& (3 : Int32))), .val (.long ROOM), .second, .val (.long LIM), .second, .val (.int (bI (¬ ((p0_2 &&& (4 : Int32)) = (0 : Int32))))), .val (.ref b15), .unset, .unset] [(.long LIM), (.long (9223372036854775807 : Int64)), (.long OFF)])) _
      refine XS.lsub X184.here hx rfl (hb hby at_172) rfl ?_
      show Steps p.tables e below (T184.setTop (mkF m 173 #[.val (.long q0_0), .second, .val (.long q0_1), .second, .val (.int p0_2), .val (.long OFF), .second, .val (.int (p0_2 &&& (3 : Int32))), .val (.long ROOM), .second, .val (.long LIM), .second, .val (.int (bI (¬ ((p0_2 &&& (4 : Int32)) = (0 : Int32))))), .val (.ref b15), .unset, .unset] [(.long ((9223372036854775807 : Int64) - LIM)), (.long OFF)])) _
      refine XS.lcmp X184.here hx rfl (hb hby at_173) rfl ?_
      exact k)
    have pre204 : ∀ t, Steps p.tables e below (T184.setTop (mkF m 188 #[.val (.long q0_0), .second, .val (.long q0_1), .second, .val (.int p0_2), .val (.long OFF), .second, .val (.int (p0_2 &&& (3 : Int32))), .val (.long ROOM), .second, .val (.long LIM), .second, .val (.int (bI (¬ ((p0_2 &&& (4 : Int32)) = (0 : Int32))))), .val (.ref b15), .unset, .unset] [(.long (if ((9223372036854775807 : Int64) - LIM) < OFF then (9223372036854775807 : Int64) else (OFF + LIM)))])) t → Steps p.tables e below (s₁.setTop (entryFrame m #[(.long q0_0), (.long q0_1), (.int p0_2)] maxLocals)) t := fun t k => pre203 t (by
      by_cases hc202 : ((9223372036854775807 : Int64) - LIM) < OFF
      · show Steps p.tables e below (T184.setTop (mkF m 174 #[.val (.long q0_0), .second, .val (.long q0_1), .second, .val (.int p0_2), .val (.long OFF), .second, .val (.int (p0_2 &&& (3 : Int32))), .val (.long ROOM), .second, .val (.long LIM), .second, .val (.int (bI (¬ ((p0_2 &&& (4 : Int32)) = (0 : Int32))))), .val (.ref b15), .unset, .unset] [(.int (lcmpW OFF ((9223372036854775807 : Int64) - LIM)))])) _
        refine XS.ifNo X184.here hx rfl (hb hby at_174) rfl ((if0 _ _).trans (tlt ((lw_gt _ _).mpr hc202)).2.2.2) ?_
        show Steps p.tables e below (T184.setTop (mkF m 177 #[.val (.long q0_0), .second, .val (.long q0_1), .second, .val (.int p0_2), .val (.long OFF), .second, .val (.int (p0_2 &&& (3 : Int32))), .val (.long ROOM), .second, .val (.long LIM), .second, .val (.int (bI (¬ ((p0_2 &&& (4 : Int32)) = (0 : Int32))))), .val (.ref b15), .unset, .unset] [])) _
        refine X184.ldc2Long hx hown (mvT hZ (hVV 0 _ rfl)) (g := (mkF m 177 #[.val (.long q0_0), .second, .val (.long q0_1), .second, .val (.int p0_2), .val (.long OFF), .second, .val (.int (p0_2 &&& (3 : Int32))), .val (.long ROOM), .second, .val (.long LIM), .second, .val (.int (bI (¬ ((p0_2 &&& (4 : Int32)) = (0 : Int32))))), .val (.ref b15), .unset, .unset] [])) rfl (hb hby at_177) _ ?_
        show Steps p.tables e below (T184.setTop (mkF m 180 #[.val (.long q0_0), .second, .val (.long q0_1), .second, .val (.int p0_2), .val (.long OFF), .second, .val (.int (p0_2 &&& (3 : Int32))), .val (.long ROOM), .second, .val (.long LIM), .second, .val (.int (bI (¬ ((p0_2 &&& (4 : Int32)) = (0 : Int32))))), .val (.ref b15), .unset, .unset] [(.long (9223372036854775807 : Int64))])) _
        refine XS.goto X184.here hx rfl (pc0 := 180) (pc' := 188) rfl (hb hby at_180) (by decide) (by decide) ?_
        have q205 : (if ((9223372036854775807 : Int64) - LIM) < OFF then (9223372036854775807 : Int64) else (OFF + LIM)) = (9223372036854775807 : Int64) := (if_pos hc202)
        exact castTop (g := (mkF m 188 #[.val (.long q0_0), .second, .val (.long q0_1), .second, .val (.int p0_2), .val (.long OFF), .second, .val (.int (p0_2 &&& (3 : Int32))), .val (.long ROOM), .second, .val (.long LIM), .second, .val (.int (bI (¬ ((p0_2 &&& (4 : Int32)) = (0 : Int32))))), .val (.ref b15), .unset, .unset] [(.long (9223372036854775807 : Int64))])) (g' := (mkF m 188 #[.val (.long q0_0), .second, .val (.long q0_1), .second, .val (.int p0_2), .val (.long OFF), .second, .val (.int (p0_2 &&& (3 : Int32))), .val (.long ROOM), .second, .val (.long LIM), .second, .val (.int (bI (¬ ((p0_2 &&& (4 : Int32)) = (0 : Int32))))), .val (.ref b15), .unset, .unset] [(.long (if ((9223372036854775807 : Int64) - LIM) < OFF then (9223372036854775807 : Int64) else (OFF + LIM)))])) (by simp only [q205]) k
      · show Steps p.tables e below (T184.setTop (mkF m 174 #[.val (.long q0_0), .second, .val (.long q0_1), .second, .val (.int p0_2), .val (.long OFF), .second, .val (.int (p0_2 &&& (3 : Int32))), .val (.long ROOM), .second, .val (.long LIM), .second, .val (.int (bI (¬ ((p0_2 &&& (4 : Int32)) = (0 : Int32))))), .val (.ref b15), .unset, .unset] [(.int (lcmpW OFF ((9223372036854775807 : Int64) - LIM)))])) _
        refine XS.ifYes X184.here hx rfl (pc0 := 174) (pc' := 183) rfl (hb hby at_174) rfl ((if0 _ _).trans (flt (fun q => hc202 ((lw_gt _ _).mp q))).2.2.2) (by decide) (by decide) ?_
        show Steps p.tables e below (T184.setTop (mkF m 183 #[.val (.long q0_0), .second, .val (.long q0_1), .second, .val (.int p0_2), .val (.long OFF), .second, .val (.int (p0_2 &&& (3 : Int32))), .val (.long ROOM), .second, .val (.long LIM), .second, .val (.int (bI (¬ ((p0_2 &&& (4 : Int32)) = (0 : Int32))))), .val (.ref b15), .unset, .unset] [])) _
        refine XS.lload X184.here hx rfl (hb hby at_183) rfl ?_
        show Steps p.tables e below (T184.setTop (mkF m 185 #[.val (.long q0_0), .second, .val (.long q0_1), .second, .val (.int p0_2), .val (.long OFF), .second, .val (.int (p0_2 &&& (3 : Int32))), .val (.long ROOM), .second, .val (.long LIM), .second, .val (.int (bI (¬ ((p0_2 &&& (4 : Int32)) = (0 : Int32))))), .val (.ref b15), .unset, .unset] [(.long OFF)])) _
        refine XS.lload X184.here hx rfl (hb hby at_185) rfl ?_
        show Steps p.tables e below (T184.setTop (mkF m 187 #[.val (.long q0_0), .second, .val (.long q0_1), .second, .val (.int p0_2), .val (.long OFF), .second, .val (.int (p0_2 &&& (3 : Int32))), .val (.long ROOM), .second, .val (.long LIM), .second, .val (.int (bI (¬ ((p0_2 &&& (4 : Int32)) = (0 : Int32))))), .val (.ref b15), .unset, .unset] [(.long LIM), (.long OFF)])) _
        refine XS.ladd X184.here hx rfl (hb hby at_187) rfl ?_
        have q206 : (if ((9223372036854775807 : Int64) - LIM) < OFF then (9223372036854775807 : Int64) else (OFF + LIM)) = (OFF + LIM) := (if_neg hc202)
        exact castTop (g := (mkF m 188 #[.val (.long q0_0), .second, .val (.long q0_1), .second, .val (.int p0_2), .val (.long OFF), .second, .val (.int (p0_2 &&& (3 : Int32))), .val (.long ROOM), .second, .val (.long LIM), .second, .val (.int (bI (¬ ((p0_2 &&& (4 : Int32)) = (0 : Int32))))), .val (.ref b15), .unset, .unset] [(.long (OFF + LIM))])) (g' := (mkF m 188 #[.val (.long q0_0), .second, .val (.long q0_1), .second, .val (.int p0_2), .val (.long OFF), .second, .val (.int (p0_2 &&& (3 : Int32))), .val (.long ROOM), .second, .val (.long LIM), .second, .val (.int (bI (¬ ((p0_2 &&& (4 : Int32)) = (0 : Int32))))), .val (.ref b15), .unset, .unset] [(.long (if ((9223372036854775807 : Int64) - LIM) < OFF then (9223372036854775807 : Int64) else (OFF + LIM)))])) (by simp only [q206]) k)
    obtain ⟨cq207, kq207, q207a, q207b, q207c⟩ := isOf hZ rfl r184_0
    obtain ⟨_, _, ⟨T207, L207, k207, n207⟩, -, X207, ⟨Lc207, hQ207, l207, y207, z207⟩, st207⟩ := X184.virtualBack hx (y := (⟨"com/example/tripleshard/tripleshard/sparql/Query", "sliceEnd", "()J"⟩ : MethodName)) (z := (⟨"com/example/tripleshard/tripleshard/sparql/Query", "sliceEnd", "()J"⟩ : MethodName)) hown (mvT hZ (hVV 53 _ rfl)) (mvT hZ (hVV 54 _ rfl)) (notFace_of_selects (args := #[]) (mvT hZ (hVV 56 _ rfl))) (mvT hZ (hVV 56 _ rfl)) (mvT hZ (hVV 55 _ rfl)) (by decide) (backOf (W := 0) (rm7 l Z a0 hw [] b15 OFF LIM T184.heap n0 z200 r184_6 r184_7) hZ (hVV 57 _ rfl) (hVV 3 _ rfl) (by decide) (by decide)) q207a q207c (g := (mkF m 192 #[.val (.long q0_0), .second, .val (.long q0_1), .second, .val (.int p0_2), .val (.long OFF), .second, .val (.int (p0_2 &&& (3 : Int32))), .val (.long ROOM), .second, .val (.long LIM), .second, .val (.int (bI (¬ ((p0_2 &&& (4 : Int32)) = (0 : Int32))))), .val (.ref b15), .val (.long (if ((9223372036854775807 : Int64) - LIM) < OFF then (9223372036854775807 : Int64) else (OFF + LIM))), .second] [(.ref b15)])) rfl (by rw [hml]; rfl) (Steps.refl _) (argsL := []) (rest := []) (lenOf pd_2 rfl) rfl (by show 2 * 0 + _ ≤ _; exact Nat.le_of_eq rfl) (hb hby at_192) (fun _ _ => ⟨rfl, rfl, (by decide : 5 + 0 ≤ _), (by decide : 19 + 0 ≤ _)⟩)
    dsimp only [Pt.U, Pt.locs, Pt.cells, Pt.slots] at X207 l207 y207 z207 st207 hQ207
    subst l207 y207 z207
    obtain ⟨rfl, N207q, e207⟩ := hQ207
    have N208 := Fr.app N185 N207q
    have pre209 : ∀ t, Steps p.tables e below (T207.setTop (mkF m 195 #[.val (.long q0_0), .second, .val (.long q0_1), .second, .val (.int p0_2), .val (.long OFF), .second, .val (.int (p0_2 &&& (3 : Int32))), .val (.long ROOM), .second, .val (.long LIM), .second, .val (.int (bI (¬ ((p0_2 &&& (4 : Int32)) = (0 : Int32))))), .val (.ref b15), .val (.long (if ((9223372036854775807 : Int64) - LIM) < OFF then (9223372036854775807 : Int64) else (OFF + LIM))), .second] [(.long (if (OFF + LIM) < (0 : Int64) then (9223372036854775807 : Int64) else (OFF + LIM)))])) t → Steps p.tables e below (s₁.setTop (entryFrame m #[(.long q0_0), (.long q0_1), (.int p0_2)] maxLocals)) t := fun t k => pre204 t (by
      show Steps p.tables e below (T184.setTop (mkF m 188 #[.val (.long q0_0), .second, .val (.long q0_1), .second, .val (.int p0_2), .val (.long OFF), .second, .val (.int (p0_2 &&& (3 : Int32))), .val (.long ROOM), .second, .val (.long LIM), .second, .val (.int (bI (¬ ((p0_2 &&& (4 : Int32)) = (0 : Int32))))), .val (.ref b15), .unset, .unset] [(.long (if ((9223372036854775807 : Int64) - LIM) < OFF then (9223372036854775807 : Int64) else (OFF + LIM)))])) _
      refine XS.lstore X184.here hx rfl (hb hby at_188) rfl (l' := #[.val (.long q0_0), .second, .val (.long q0_1), .second, .val (.int p0_2), .val (.long OFF), .second, .val (.int (p0_2 &&& (3 : Int32))), .val (.long ROOM), .second, .val (.long LIM), .second, .val (.int (bI (¬ ((p0_2 &&& (4 : Int32)) = (0 : Int32))))), .val (.ref b15), .val (.long (if ((9223372036854775807 : Int64) - LIM) < OFF then (9223372036854775807 : Int64) else (OFF + LIM))), .second]) rfl ?_
      show Steps p.tables e below (T184.setTop (mkF m 190 #[.val (.long q0_0), .second, .val (.long q0_1), .second, .val (.int p0_2), .val (.long OFF), .second, .val (.int (p0_2 &&& (3 : Int32))), .val (.long ROOM), .second, .val (.long LIM), .second, .val (.int (bI (¬ ((p0_2 &&& (4 : Int32)) = (0 : Int32))))), .val (.ref b15), .val (.long (if ((9223372036854775807 : Int64) - LIM) < OFF then (9223372036854775807 : Int64) else (OFF + LIM))), .second] [])) _
      refine XS.aload X184.here hx rfl (hb hby at_190) rfl rfl ?_
      show Steps p.tables e below (T184.setTop (mkF m 192 #[.val (.long q0_0), .second, .val (.long q0_1), .second, .val (.int p0_2), .val (.long OFF), .second, .val (.int (p0_2 &&& (3 : Int32))), .val (.long ROOM), .second, .val (.long LIM), .second, .val (.int (bI (¬ ((p0_2 &&& (4 : Int32)) = (0 : Int32))))), .val (.ref b15), .val (.long (if ((9223372036854775807 : Int64) - LIM) < OFF then (9223372036854775807 : Int64) else (OFF + LIM))), .second] [(.ref b15)])) _
      refine st207.trans ?_
      exact k)
    have hd210 : (lcmpW (if (OFF + LIM) < (0 : Int64) then (9223372036854775807 : Int64) else (OFF + LIM)) (if ((9223372036854775807 : Int64) - LIM) < OFF then (9223372036854775807 : Int64) else (OFF + LIM))) = (0 : Int32) := by
      exact (lw_eq _ _).mpr (own_fin OFF LIM hOFF0 hLIM0)
    obtain ⟨fs, hr, hrun, hended, hW, hsame⟩ := X207.leave (v := some (.int (1 : Int32))) (fun h => by rw [Bd.returns] at h; cases h)
    refine ⟨_, _, pre209 _ ?_, hrun, hended, _, _, rfl, ?_, ⟨_, rfl⟩, hW, hsame.mono (by decide) (by decide)⟩
    · show Steps p.tables e below (T207.setTop (mkF m 195 #[.val (.long q0_0), .second, .val (.long q0_1), .second, .val (.int p0_2), .val (.long OFF), .second, .val (.int (p0_2 &&& (3 : Int32))), .val (.long ROOM), .second, .val (.long LIM), .second, .val (.int (bI (¬ ((p0_2 &&& (4 : Int32)) = (0 : Int32))))), .val (.ref b15), .val (.long (if ((9223372036854775807 : Int64) - LIM) < OFF then (9223372036854775807 : Int64) else (OFF + LIM))), .second] [(.long (if (OFF + LIM) < (0 : Int64) then (9223372036854775807 : Int64) else (OFF + LIM)))])) _
      refine XS.lload X207.here hx rfl (hb hby at_195) rfl ?_
      show Steps p.tables e below (T207.setTop (mkF m 197 #[.val (.long q0_0), .second, .val (.long q0_1), .second, .val (.int p0_2), .val (.long OFF), .second, .val (.int (p0_2 &&& (3 : Int32))), .val (.long ROOM), .second, .val (.long LIM), .second, .val (.int (bI (¬ ((p0_2 &&& (4 : Int32)) = (0 : Int32))))), .val (.ref b15), .val (.long (if ((9223372036854775807 : Int64) - LIM) < OFF then (9223372036854775807 : Int64) else (OFF + LIM))), .second] [(.long (if ((9223372036854775807 : Int64) - LIM) < OFF then (9223372036854775807 : Int64) else (OFF + LIM))), (.long (if (OFF + LIM) < (0 : Int64) then (9223372036854775807 : Int64) else (OFF + LIM)))])) _
      refine XS.lcmp X207.here hx rfl (hb hby at_197) rfl ?_
      show Steps p.tables e below (T207.setTop (mkF m 198 #[.val (.long q0_0), .second, .val (.long q0_1), .second, .val (.int p0_2), .val (.long OFF), .second, .val (.int (p0_2 &&& (3 : Int32))), .val (.long ROOM), .second, .val (.long LIM), .second, .val (.int (bI (¬ ((p0_2 &&& (4 : Int32)) = (0 : Int32))))), .val (.ref b15), .val (.long (if ((9223372036854775807 : Int64) - LIM) < OFF then (9223372036854775807 : Int64) else (OFF + LIM))), .second] [(.int (lcmpW (if (OFF + LIM) < (0 : Int64) then (9223372036854775807 : Int64) else (OFF + LIM)) (if ((9223372036854775807 : Int64) - LIM) < OFF then (9223372036854775807 : Int64) else (OFF + LIM))))])) _
      refine XS.ifNo X207.here hx rfl (hb hby at_198) rfl ((if0 _ _).trans (teq hd210).2) ?_
      show Steps p.tables e below (T207.setTop (mkF m 201 #[.val (.long q0_0), .second, .val (.long q0_1), .second, .val (.int p0_2), .val (.long OFF), .second, .val (.int (p0_2 &&& (3 : Int32))), .val (.long ROOM), .second, .val (.long LIM), .second, .val (.int (bI (¬ ((p0_2 &&& (4 : Int32)) = (0 : Int32))))), .val (.ref b15), .val (.long (if ((9223372036854775807 : Int64) - LIM) < OFF then (9223372036854775807 : Int64) else (OFF + LIM))), .second] [])) _
      refine XS.iconst X207.here hx rfl (hb hby at_201) ?_
      show Steps p.tables e below (T207.setTop (mkF m 202 #[.val (.long q0_0), .second, .val (.long q0_1), .second, .val (.int p0_2), .val (.long OFF), .second, .val (.int (p0_2 &&& (3 : Int32))), .val (.long ROOM), .second, .val (.long LIM), .second, .val (.int (bI (¬ ((p0_2 &&& (4 : Int32)) = (0 : Int32))))), .val (.ref b15), .val (.long (if ((9223372036854775807 : Int64) - LIM) < OFF then (9223372036854775807 : Int64) else (OFF + LIM))), .second] [(.int (1 : Int32))])) _
      refine XS.goto X207.here hx rfl (pc0 := 202) (pc' := 206) rfl (hb hby at_202) (by decide) (by decide) ?_
      show Steps p.tables e below (T207.setTop (mkF m 206 #[.val (.long q0_0), .second, .val (.long q0_1), .second, .val (.int p0_2), .val (.long OFF), .second, .val (.int (p0_2 &&& (3 : Int32))), .val (.long ROOM), .second, .val (.long LIM), .second, .val (.int (bI (¬ ((p0_2 &&& (4 : Int32)) = (0 : Int32))))), .val (.ref b15), .val (.long (if ((9223372036854775807 : Int64) - LIM) < OFF then (9223372036854775807 : Int64) else (OFF + LIM))), .second] [(.int (1 : Int32))])) _
      exact retN X207 hx (t := .boolean) Bd.returns (by simp) (hb hby at_206) hr
    · show Q0 Z q0_0 q0_1 p0_2 w0_DEFAULTCAPACITY_EMPTY_ELEMENTDATA h0 n0 _ T207.heap _
      rw [e207]
      exact ⟨rfl, N208⟩
  · by_cases hc212 : (p0_2 &&& (3 : Int32)) = (1 : Int32)
    · obtain ⟨_, _, ⟨T213, L213, k213, n213⟩, -, X213, ⟨Lc213, hQ213, l213, y213, z213⟩, st213⟩ := Jvm.LawKit.callS X0 hx (y := (⟨"java/lang/Math", "max", "(JJ)J"⟩ : MethodName)) hown (mvT hZ (hVV 60 _ rfl)) (mvT hZ (hVV 61 _ rfl)) (mvT hZ (hVV 62 _ rfl)) (mvT hZ (hVV 63 _ rfl)) (by decide) (backOf (W := 0) (rm8 l Z a0 hw [] (0 : Int64) (ROOM - (q0_1 &&& (1 : Int64))) h0 n0 Z0 ) hZ (hVV 63 _ rfl) (hVV 62 _ rfl) (by decide) (by decide)) (g := (mkF m 49 #[.val (.long q0_0), .second, .val (.long q0_1), .second, .val (.int p0_2), .val (.long OFF), .second, .val (.int (p0_2 &&& (3 : Int32))), .val (.long ROOM), .second, .unset, .unset, .unset, .unset, .unset, .unset] [(.long (ROOM - (q0_1 &&& (1 : Int64)))), (.long (0 : Int64))])) rfl (by rw [hml]; rfl) (argsL := [(.long (0 : Int64)), (.long (ROOM - (q0_1 &&& (1 : Int64))))]) (rest := []) (lenOf pd_3 rfl) rfl (by show 2 * 0 + _ ≤ _; exact Nat.le_of_eq rfl) (hb hby at_49) (fun _ _ => ⟨rfl, e0, (by decide : 0 + 0 ≤ _), (by decide : 0 + 0 ≤ _)⟩)
      dsimp only [Pt.U, Pt.locs, Pt.cells, Pt.slots] at X213 l213 y213 z213 st213 hQ213
      subst l213 y213 z213
      obtain ⟨rfl, N213q, e213⟩ := hQ213
      have N214 := Fr.app N0 N213q
      have pre215 : ∀ t, Steps p.tables e below (T213.setTop (mkF m 52 #[.val (.long q0_0), .second, .val (.long q0_1), .second, .val (.int p0_2), .val (.long OFF), .second, .val (.int (p0_2 &&& (3 : Int32))), .val (.long ROOM), .second, .unset, .unset, .unset, .unset, .unset, .unset] [(.long (if (0 : Int64) < (ROOM - (q0_1 &&& (1 : Int64))) then (ROOM - (q0_1 &&& (1 : Int64))) else (0 : Int64)))])) t → Steps p.tables e below (s₁.setTop (entryFrame m #[(.long q0_0), (.long q0_1), (.int p0_2)] maxLocals)) t := fun t k => pre4 t (by
        show Steps p.tables e below (s₁.setTop (mkF m 21 #[.val (.long q0_0), .second, .val (.long q0_1), .second, .val (.int p0_2), .val (.long OFF), .second, .val (.int (p0_2 &&& (3 : Int32))), .val (.long ROOM), .second, .unset, .unset, .unset, .unset, .unset, .unset] [])) _
        refine XS.iload X0.here hx rfl (hb hby at_21) rfl ?_
        show Steps p.tables e below (s₁.setTop (mkF m 23 #[.val (.long q0_0), .second, .val (.long q0_1), .second, .val (.int p0_2), .val (.long OFF), .second, .val (.int (p0_2 &&& (3 : Int32))), .val (.long ROOM), .second, .unset, .unset, .unset, .unset, .unset, .unset] [(.int (p0_2 &&& (3 : Int32)))])) _
        refine XS.ifYes X0.here hx rfl (pc0 := 23) (pc' := 36) rfl (hb hby at_23) rfl ((if0 _ _).trans (feq hc7).2) (by decide) (by decide) ?_
        show Steps p.tables e below (s₁.setTop (mkF m 36 #[.val (.long q0_0), .second, .val (.long q0_1), .second, .val (.int p0_2), .val (.long OFF), .second, .val (.int (p0_2 &&& (3 : Int32))), .val (.long ROOM), .second, .unset, .unset, .unset, .unset, .unset, .unset] [])) _
        refine XS.iload X0.here hx rfl (hb hby at_36) rfl ?_
        show Steps p.tables e below (s₁.setTop (mkF m 38 #[.val (.long q0_0), .second, .val (.long q0_1), .second, .val (.int p0_2), .val (.long OFF), .second, .val (.int (p0_2 &&& (3 : Int32))), .val (.long ROOM), .second, .unset, .unset, .unset, .unset, .unset, .unset] [(.int (p0_2 &&& (3 : Int32)))])) _
        refine XS.iconst X0.here hx rfl (hb hby at_38) ?_
        show Steps p.tables e below (s₁.setTop (mkF m 39 #[.val (.long q0_0), .second, .val (.long q0_1), .second, .val (.int p0_2), .val (.long OFF), .second, .val (.int (p0_2 &&& (3 : Int32))), .val (.long ROOM), .second, .unset, .unset, .unset, .unset, .unset, .unset] [(.int (1 : Int32)), (.int (p0_2 &&& (3 : Int32)))])) _
        refine XS.icmpNo X0.here hx rfl (hb hby at_39) rfl (teq hc212).2 ?_
        show Steps p.tables e below (s₁.setTop (mkF m 42 #[.val (.long q0_0), .second, .val (.long q0_1), .second, .val (.int p0_2), .val (.long OFF), .second, .val (.int (p0_2 &&& (3 : Int32))), .val (.long ROOM), .second, .unset, .unset, .unset, .unset, .unset, .unset] [])) _
        refine XS.lconst X0.here hx rfl (hb hby at_42) ?_
        show Steps p.tables e below (s₁.setTop (mkF m 43 #[.val (.long q0_0), .second, .val (.long q0_1), .second, .val (.int p0_2), .val (.long OFF), .second, .val (.int (p0_2 &&& (3 : Int32))), .val (.long ROOM), .second, .unset, .unset, .unset, .unset, .unset, .unset] [(.long (0 : Int64))])) _
        refine XS.lload X0.here hx rfl (hb hby at_43) rfl ?_
        show Steps p.tables e below (s₁.setTop (mkF m 45 #[.val (.long q0_0), .second, .val (.long q0_1), .second, .val (.int p0_2), .val (.long OFF), .second, .val (.int (p0_2 &&& (3 : Int32))), .val (.long ROOM), .second, .unset, .unset, .unset, .unset, .unset, .unset] [(.long ROOM), (.long (0 : Int64))])) _
        refine XS.lloadN X0.here hx rfl (hb hby at_45) rfl ?_
        show Steps p.tables e below (s₁.setTop (mkF m 46 #[.val (.long q0_0), .second, .val (.long q0_1), .second, .val (.int p0_2), .val (.long OFF), .second, .val (.int (p0_2 &&& (3 : Int32))), .val (.long ROOM), .second, .unset, .unset, .unset, .unset, .unset, .unset] [(.long q0_1), (.long ROOM), (.long (0 : Int64))])) _
        refine XS.lconst X0.here hx rfl (hb hby at_46) ?_
        show Steps p.tables e below (s₁.setTop (mkF m 47 #[.val (.long q0_0), .second, .val (.long q0_1), .second, .val (.int p0_2), .val (.long OFF), .second, .val (.int (p0_2 &&& (3 : Int32))), .val (.long ROOM), .second, .unset, .unset, .unset, .unset, .unset, .unset] [(.long (1 : Int64)), (.long q0_1), (.long ROOM), (.long (0 : Int64))])) _
        refine XS.land X0.here hx rfl (hb hby at_47) rfl ?_
        show Steps p.tables e below (s₁.setTop (mkF m 48 #[.val (.long q0_0), .second, .val (.long q0_1), .second, .val (.int p0_2), .val (.long OFF), .second, .val (.int (p0_2 &&& (3 : Int32))), .val (.long ROOM), .second, .unset, .unset, .unset, .unset, .unset, .unset] [(.long (q0_1 &&& (1 : Int64))), (.long ROOM), (.long (0 : Int64))])) _
        refine XS.lsub X0.here hx rfl (hb hby at_48) rfl ?_
        show Steps p.tables e below (s₁.setTop (mkF m 49 #[.val (.long q0_0), .second, .val (.long q0_1), .second, .val (.int p0_2), .val (.long OFF), .second, .val (.int (p0_2 &&& (3 : Int32))), .val (.long ROOM), .second, .unset, .unset, .unset, .unset, .unset, .unset] [(.long (ROOM - (q0_1 &&& (1 : Int64)))), (.long (0 : Int64))])) _
        refine st213 _ ?_
        exact k)
      have pre216 : ∀ t, Steps p.tables e below (T213.setTop (mkF m 108 #[.val (.long q0_0), .second, .val (.long q0_1), .second, .val (.int p0_2), .val (.long OFF), .second, .val (.int (p0_2 &&& (3 : Int32))), .val (.long ROOM), .second, .val (.long (if (0 : Int64) < (ROOM - (q0_1 &&& (1 : Int64))) then (ROOM - (q0_1 &&& (1 : Int64))) else (0 : Int64))), .second, .unset, .unset, .unset, .unset] [])) t → Steps p.tables e below (s₁.setTop (entryFrame m #[(.long q0_0), (.long q0_1), (.int p0_2)] maxLocals)) t := fun t k => pre215 t (by
        show Steps p.tables e below (T213.setTop (mkF m 52 #[.val (.long q0_0), .second, .val (.long q0_1), .second, .val (.int p0_2), .val (.long OFF), .second, .val (.int (p0_2 &&& (3 : Int32))), .val (.long ROOM), .second, .unset, .unset, .unset, .unset, .unset, .unset] [(.long (if (0 : Int64) < (ROOM - (q0_1 &&& (1 : Int64))) then (ROOM - (q0_1 &&& (1 : Int64))) else (0 : Int64)))])) _
        refine XS.lstore X213.here hx rfl (hb hby at_52) rfl (l' := #[.val (.long q0_0), .second, .val (.long q0_1), .second, .val (.int p0_2), .val (.long OFF), .second, .val (.int (p0_2 &&& (3 : Int32))), .val (.long ROOM), .second, .val (.long (if (0 : Int64) < (ROOM - (q0_1 &&& (1 : Int64))) then (ROOM - (q0_1 &&& (1 : Int64))) else (0 : Int64))), .second, .unset, .unset, .unset, .unset]) rfl ?_
        show Steps p.tables e below (T213.setTop (mkF m 54 #[.val (.long q0_0), .second, .val (.long q0_1), .second, .val (.int p0_2), .val (.long OFF), .second, .val (.int (p0_2 &&& (3 : Int32))), .val (.long ROOM), .second, .val (.long (if (0 : Int64) < (ROOM - (q0_1 &&& (1 : Int64))) then (ROOM - (q0_1 &&& (1 : Int64))) else (0 : Int64))), .second, .unset, .unset, .unset, .unset] [])) _
        refine XS.goto X213.here hx rfl (pc0 := 54) (pc' := 108) rfl (hb hby at_54) (by decide) (by decide) ?_
        exact k)
      obtain ⟨LIM, hLIM⟩ : ∃ z : Int64, z = (if (0 : Int64) < (ROOM - (q0_1 &&& (1 : Int64))) then (ROOM - (q0_1 &&& (1 : Int64))) else (0 : Int64)) := ⟨_, rfl⟩
      have pre217 : ∀ t, Steps p.tables e below (T213.setTop (mkF m 108 #[.val (.long q0_0), .second, .val (.long q0_1), .second, .val (.int p0_2), .val (.long OFF), .second, .val (.int (p0_2 &&& (3 : Int32))), .val (.long ROOM), .second, .val (.long LIM), .second, .unset, .unset, .unset, .unset] [])) t → Steps p.tables e below (s₁.setTop (entryFrame m #[(.long q0_0), (.long q0_1), (.int p0_2)] maxLocals)) t := fun t k => pre216 t (castTop (by rw [hLIM]) k)
      have hLIM0 : 0 ≤ LIM.toInt := by
        rw [hLIM]
        exact own_l1 _ _
      have pre219 : ∀ t, Steps p.tables e below (T213.setTop (mkF m 112 #[.val (.long q0_0), .second, .val (.long q0_1), .second, .val (.int p0_2), .val (.long OFF), .second, .val (.int (p0_2 &&& (3 : Int32))), .val (.long ROOM), .second, .val (.long LIM), .second, .unset, .unset, .unset, .unset] [(.int (p0_2 &&& (4 : Int32)))])) t → Steps p.tables e below (s₁.setTop (entryFrame m #[(.long q0_0), (.long q0_1), (.int p0_2)] maxLocals)) t := fun t k => pre217 t (by
        show Steps p.tables e below (T213.setTop (mkF m 108 #[.val (.long q0_0), .second, .val (.long q0_1), .second, .val (.int p0_2), .val (.long OFF), .second, .val (.int (p0_2 &&& (3 : Int32))), .val (.long ROOM), .second, .val (.long LIM), .second, .unset, .unset, .unset, .unset] [])) _
        refine XS.iload X213.here hx rfl (hb hby at_108) rfl ?_
        show Steps p.tables e below (T213.setTop (mkF m 110 #[.val (.long q0_0), .second, .val (.long q0_1), .second, .val (.int p0_2), .val (.long OFF), .second, .val (.int (p0_2 &&& (3 : Int32))), .val (.long ROOM), .second, .val (.long LIM), .second, .unset, .unset, .unset, .unset] [(.int p0_2)])) _
        refine XS.iconst X213.here hx rfl (hb hby at_110) ?_
        show Steps p.tables e below (T213.setTop (mkF m 111 #[.val (.long q0_0), .second, .val (.long q0_1), .second, .val (.int p0_2), .val (.long OFF), .second, .val (.int (p0_2 &&& (3 : Int32))), .val (.long ROOM), .second, .val (.long LIM), .second, .unset, .unset, .unset, .unset] [(.int (4 : Int32)), (.int p0_2)])) _
        refine XS.iand X213.here hx rfl (hb hby at_111) rfl ?_
        exact k)
      have pre220 : ∀ t, Steps p.tables e below (T213.setTop (mkF m 120 #[.val (.long q0_0), .second, .val (.long q0_1), .second, .val (.int p0_2), .val (.long OFF), .second, .val (.int (p0_2 &&& (3 : Int32))), .val (.long ROOM), .second, .val (.long LIM), .second, .unset, .unset, .unset, .unset] [(.int (bI (¬ ((p0_2 &&& (4 : Int32)) = (0 : Int32)))))])) t → Steps p.tables e below (s₁.setTop (entryFrame m #[(.long q0_0), (.long q0_1), (.int p0_2)] maxLocals)) t := fun t k => pre219 t (by
        by_cases hc218 : (p0_2 &&& (4 : Int32)) = (0 : Int32)
        · show Steps p.tables e below (T213.setTop (mkF m 112 #[.val (.long q0_0), .second, .val (.long q0_1), .second, .val (.int p0_2), .val (.long OFF), .second, .val (.int (p0_2 &&& (3 : Int32))), .val (.long ROOM), .second, .val (.long LIM), .second, .unset, .unset, .unset, .unset] [(.int (p0_2 &&& (4 : Int32)))])) _
          refine XS.ifYes X213.here hx rfl (pc0 := 112) (pc' := 119) rfl (hb hby at_112) rfl ((if0 _ _).trans (teq hc218).1) (by decide) (by decide) ?_
          show Steps p.tables e below (T213.setTop (mkF m 119 #[.val (.long q0_0), .second, .val (.long q0_1), .second, .val (.int p0_2), .val (.long OFF), .second, .val (.int (p0_2 &&& (3 : Int32))), .val (.long ROOM), .second, .val (.long LIM), .second, .unset, .unset, .unset, .unset] [])) _
          refine XS.iconst X213.here hx rfl (hb hby at_119) ?_
          have q221 : (bI (¬ ((p0_2 &&& (4 : Int32)) = (0 : Int32)))) = (0 : Int32) := (bI_f (fun q => q hc218))
          exact castTop (g := (mkF m 120 #[.val (.long q0_0), .second, .val (.long q0_1), .second, .val (.int p0_2), .val (.long OFF), .second, .val (.int (p0_2 &&& (3 : Int32))), .val (.long ROOM), .second, .val (.long LIM), .second, .unset, .unset, .unset, .unset] [(.int (0 : Int32))])) (g' := (mkF m 120 #[.val (.long q0_0), .second, .val (.long q0_1), .second, .val (.int p0_2), .val (.long OFF), .second, .val (.int (p0_2 &&& (3 : Int32))), .val (.long ROOM), .second, .val (.long LIM), .second, .unset, .unset, .unset, .unset] [(.int (bI (¬ ((p0_2 &&& (4 : Int32)) = (0 : Int32)))))])) (by simp only [q221]) k
        · show Steps p.tables e below (T213.setTop (mkF m 112 #[.val (.long q0_0), .second, .val (.long q0_1), .second, .val (.int p0_2), .val (.long OFF), .second, .val (.int (p0_2 &&& (3 : Int32))), .val (.long ROOM), .second, .val (.long LIM), .second, .unset, .unset, .unset, .unset] [(.int (p0_2 &&& (4 : Int32)))])) _
          refine XS.ifNo X213.here hx rfl (hb hby at_112) rfl ((if0 _ _).trans (feq hc218).1) ?_
          show Steps p.tables e below (T213.setTop (mkF m 115 #[.val (.long q0_0), .second, .val (.long q0_1), .second, .val (.int p0_2), .val (.long OFF), .second, .val (.int (p0_2 &&& (3 : Int32))), .val (.long ROOM), .second, .val (.long LIM), .second, .unset, .unset, .unset, .unset] [])) _
          refine XS.iconst X213.here hx rfl (hb hby at_115) ?_
          show Steps p.tables e below (T213.setTop (mkF m 116 #[.val (.long q0_0), .second, .val (.long q0_1), .second, .val (.int p0_2), .val (.long OFF), .second, .val (.int (p0_2 &&& (3 : Int32))), .val (.long ROOM), .second, .val (.long LIM), .second, .unset, .unset, .unset, .unset] [(.int (1 : Int32))])) _
          refine XS.goto X213.here hx rfl (pc0 := 116) (pc' := 120) rfl (hb hby at_116) (by decide) (by decide) ?_
          have q222 : (bI (¬ ((p0_2 &&& (4 : Int32)) = (0 : Int32)))) = (1 : Int32) := (bI_t hc218)
          exact castTop (g := (mkF m 120 #[.val (.long q0_0), .second, .val (.long q0_1), .second, .val (.int p0_2), .val (.long OFF), .second, .val (.int (p0_2 &&& (3 : Int32))), .val (.long ROOM), .second, .val (.long LIM), .second, .unset, .unset, .unset, .unset] [(.int (1 : Int32))])) (g' := (mkF m 120 #[.val (.long q0_0), .second, .val (.long q0_1), .second, .val (.int p0_2), .val (.long OFF), .second, .val (.int (p0_2 &&& (3 : Int32))), .val (.long ROOM), .second, .val (.long LIM), .second, .unset, .unset, .unset, .unset] [(.int (bI (¬ ((p0_2 &&& (4 : Int32)) = (0 : Int32)))))])) (by simp only [q222]) k)
      obtain ⟨T223, h223, X223, e223, E223, A223, D223, -, st223⟩ := newO X213 hx hZ hown (hVV 1 _ rfl) (hVV 2 _ rfl) (hVV 3 _ rfl) e213 (g := (mkF m 122 #[.val (.long q0_0), .second, .val (.long q0_1), .second, .val (.int p0_2), .val (.long OFF), .second, .val (.int (p0_2 &&& (3 : Int32))), .val (.long ROOM), .second, .val (.long LIM), .second, .val (.int (bI (¬ ((p0_2 &&& (4 : Int32)) = (0 : Int32))))), .unset, .unset, .unset] [])) rfl (hb hby at_122) (by decide) (by decide)
      obtain ⟨b223, g223⟩ : ∃ z, z = h0.size := ⟨_, rfl⟩
      rw [← g223] at A223 D223 st223
      have gz223 : n0 ≤ b223 := Nat.le_trans Z0 (Nat.le_of_eq g223.symm)
      have pre224 : ∀ t, Steps p.tables e below (T223.setTop (mkF m 125 #[.val (.long q0_0), .second, .val (.long q0_1), .second, .val (.int p0_2), .val (.long OFF), .second, .val (.int (p0_2 &&& (3 : Int32))), .val (.long ROOM), .second, .val (.long LIM), .second, .val (.int (bI (¬ ((p0_2 &&& (4 : Int32)) = (0 : Int32))))), .unset, .unset, .unset] [(.ref b223)])) t → Steps p.tables e below (s₁.setTop (entryFrame m #[(.long q0_0), (.long q0_1), (.int p0_2)] maxLocals)) t := fun t k => pre220 t (by
        show Steps p.tables e below (T213.setTop (mkF m 120 #[.val (.long q0_0), .second, .val (.long q0_1), .second, .val (.int p0_2), .val (.long OFF), .second, .val (.int (p0_2 &&& (3 : Int32))), .val (.long ROOM), .second, .val (.long LIM), .second, .unset, .unset, .unset, .unset] [(.int (bI (¬ ((p0_2 &&& (4 : Int32)) = (0 : Int32)))))])) _
        refine XS.istore X213.here hx rfl (hb hby at_120) rfl (l' := #[.val (.long q0_0), .second, .val (.long q0_1), .second, .val (.int p0_2), .val (.long OFF), .second, .val (.int (p0_2 &&& (3 : Int32))), .val (.long ROOM), .second, .val (.long LIM), .second, .val (.int (bI (¬ ((p0_2 &&& (4 : Int32)) = (0 : Int32))))), .unset, .unset, .unset]) rfl ?_
        show Steps p.tables e below (T213.setTop (mkF m 122 #[.val (.long q0_0), .second, .val (.long q0_1), .second, .val (.int p0_2), .val (.long OFF), .second, .val (.int (p0_2 &&& (3 : Int32))), .val (.long ROOM), .second, .val (.long LIM), .second, .val (.int (bI (¬ ((p0_2 &&& (4 : Int32)) = (0 : Int32))))), .unset, .unset, .unset] [])) _
        refine st223 _ ?_
        exact k)
      have z225 := Nat.le_trans Z0 E223.1
      have o226 := O0.ext E223
      have f227 : Fld Z h223 b223 "com/example/tripleshard/tripleshard/sparql/Query" "projection" "Ljava/util/List;" .null := D223 (Or.inr (hVV 40 _ rfl)) (ty := (.object "java/util/List")) (by decide)
      have f228 : Fld Z h223 b223 "com/example/tripleshard/tripleshard/sparql/Query" "patterns" "Ljava/util/List;" .null := D223 (Or.inr (hVV 42 _ rfl)) (ty := (.object "java/util/List")) (by decide)
      have f229 : Fld Z h223 b223 "com/example/tripleshard/tripleshard/sparql/Query" "filters" "Ljava/util/List;" .null := D223 (Or.inr (hVV 44 _ rfl)) (ty := (.object "java/util/List")) (by decide)
      have f230 : Fld Z h223 b223 "com/example/tripleshard/tripleshard/sparql/Query" "distinct" "Z" (.int (0 : Int32)) := D223 (Or.inr (hVV 46 _ rfl)) (ty := .boolean) (by decide)
      have f231 : Fld Z h223 b223 "com/example/tripleshard/tripleshard/sparql/Query" "orderBy" "Ljava/util/List;" .null := D223 (Or.inr (hVV 48 _ rfl)) (ty := (.object "java/util/List")) (by decide)
      have f232 : Fld Z h223 b223 "com/example/tripleshard/tripleshard/sparql/Query" "offset" "J" (.long (0 : Int64)) := D223 (Or.inr (hVV 50 _ rfl)) (ty := .long) (by decide)
      have f233 : Fld Z h223 b223 "com/example/tripleshard/tripleshard/sparql/Query" "limit" "J" (.long (0 : Int64)) := D223 (Or.inr (hVV 52 _ rfl)) (ty := .long) (by decide)
      obtain ⟨T234, h234, X234, e234, E234, A234, D234, -, st234⟩ := newO X223 hx hZ hown (hVV 4 _ rfl) (hVV 5 _ rfl) (hVV 6 _ rfl) e223 (g := (mkF m 126 #[.val (.long q0_0), .second, .val (.long q0_1), .second, .val (.int p0_2), .val (.long OFF), .second, .val (.int (p0_2 &&& (3 : Int32))), .val (.long ROOM), .second, .val (.long LIM), .second, .val (.int (bI (¬ ((p0_2 &&& (4 : Int32)) = (0 : Int32))))), .unset, .unset, .unset] [(.ref b223), (.ref b223)])) rfl (hb hby at_126) (by decide) (by decide)
      obtain ⟨b234, g234⟩ : ∃ z, z = h223.size := ⟨_, rfl⟩
      rw [← g234] at A234 D234 st234
      have gz234 : n0 ≤ b234 := Nat.le_trans z225 (Nat.le_of_eq g234.symm)
      have ne235 : b223 ≠ b234 := Nat.ne_of_lt (Nat.lt_of_lt_of_le A223.lt (Nat.le_of_eq g234.symm))
      have pre236 : ∀ t, Steps p.tables e below (T234.setTop (mkF m 129 #[.val (.long q0_0), .second, .val (.long q0_1), .second, .val (.int p0_2), .val (.long OFF), .second, .val (.int (p0_2 &&& (3 : Int32))), .val (.long ROOM), .second, .val (.long LIM), .second, .val (.int (bI (¬ ((p0_2 &&& (4 : Int32)) = (0 : Int32))))), .unset, .unset, .unset] [(.ref b234), (.ref b223), (.ref b223)])) t → Steps p.tables e below (s₁.setTop (entryFrame m #[(.long q0_0), (.long q0_1), (.int p0_2)] maxLocals)) t := fun t k => pre224 t (by
        show Steps p.tables e below (T223.setTop (mkF m 125 #[.val (.long q0_0), .second, .val (.long q0_1), .second, .val (.int p0_2), .val (.long OFF), .second, .val (.int (p0_2 &&& (3 : Int32))), .val (.long ROOM), .second, .val (.long LIM), .second, .val (.int (bI (¬ ((p0_2 &&& (4 : Int32)) = (0 : Int32))))), .unset, .unset, .unset] [(.ref b223)])) _
        refine XS.dup X223.here hx rfl (hb hby at_125) rfl rfl ?_
        show Steps p.tables e below (T223.setTop (mkF m 126 #[.val (.long q0_0), .second, .val (.long q0_1), .second, .val (.int p0_2), .val (.long OFF), .second, .val (.int (p0_2 &&& (3 : Int32))), .val (.long ROOM), .second, .val (.long LIM), .second, .val (.int (bI (¬ ((p0_2 &&& (4 : Int32)) = (0 : Int32))))), .unset, .unset, .unset] [(.ref b223), (.ref b223)])) _
        refine st234 _ ?_
        exact k)
      have f237 := A223.ext E234
      have f238 := f227.ext E234
      have f239 := f228.ext E234
      have f240 := f229.ext E234
      have f241 := f230.ext E234
      have f242 := f231.ext E234
      have f243 := f232.ext E234
      have f244 := f233.ext E234
      have z245 := Nat.le_trans z225 E234.1
      have o246 := o226.ext E234
      have f247 : Fld Z h234 b234 "java/util/AbstractList" "modCount" "I" (.int (0 : Int32)) := D234 (Or.inl (hVV 26 _ rfl)) (ty := .int) (by decide)
      have f248 : Fld Z h234 b234 "java/util/ArrayList" "elementData" "[Ljava/lang/Object;" .null := D234 (Or.inl (hVV 29 _ rfl)) (ty := (.array (.object "java/lang/Object"))) (by decide)
      obtain ⟨_, _, ⟨T249, L249, k249, n249⟩, -, X249, ⟨Lc249, hQ249, l249, y249, z249⟩, st249⟩ := X234.specialBack hx (y := (⟨"java/util/ArrayList", "<init>", "()V"⟩ : MethodName)) rfl hown (mvT hZ (hVV 7 _ rfl)) (mvT hZ (hVV 8 _ rfl)) (mvT hZ (hVV 9 _ rfl)) (by decide) (backOf (W := 3) (rm1 l Z a0 hw [] b234 (0 : Int32) .null w0_DEFAULTCAPACITY_EMPTY_ELEMENTDATA h234 n0 z245 o246 A234 f247 f248 gz234 S_DEFAULTCAPACITY_EMPTY_ELEMENTDATA) hZ (hVV 9 _ rfl) (hVV 6 _ rfl) (by decide) (by decide)) (g := (mkF m 130 #[.val (.long q0_0), .second, .val (.long q0_1), .second, .val (.int p0_2), .val (.long OFF), .second, .val (.int (p0_2 &&& (3 : Int32))), .val (.long ROOM), .second, .val (.long LIM), .second, .val (.int (bI (¬ ((p0_2 &&& (4 : Int32)) = (0 : Int32))))), .unset, .unset, .unset] [(.ref b234), (.ref b234), (.ref b223), (.ref b223)])) rfl (by rw [hml]; rfl) (Steps.refl _) (a := b234) (argsL := []) (rest := [(.ref b234), (.ref b223), (.ref b223)]) (lenOf pd_0 rfl) rfl (by show 2 * 0 + _ ≤ _; exact Nat.le_of_eq rfl) (hb hby at_130) (fun _ _ => ⟨rfl, e234, (by decide : 2 + 0 ≤ _), (by decide : 10 + 0 ≤ _)⟩)
      dsimp only [Pt.U, Pt.locs, Pt.cells, Pt.slots] at X249 l249 y249 z249 st249 hQ249
      subst l249 y249 z249
      obtain ⟨rfl, N249q, K249, r249_0, r249_1, r249_2⟩ := hQ249
      have N250 := Fr.app N214 N249q
      have pre251 : ∀ t, Steps p.tables e below (T249.setTop (mkF m 133 #[.val (.long q0_0), .second, .val (.long q0_1), .second, .val (.int p0_2), .val (.long OFF), .second, .val (.int (p0_2 &&& (3 : Int32))), .val (.long ROOM), .second, .val (.long LIM), .second, .val (.int (bI (¬ ((p0_2 &&& (4 : Int32)) = (0 : Int32))))), .unset, .unset, .unset] [(.ref b234), (.ref b223), (.ref b223)])) t → Steps p.tables e below (s₁.setTop (entryFrame m #[(.long q0_0), (.long q0_1), (.int p0_2)] maxLocals)) t := fun t k => pre236 t (by
        show Steps p.tables e below (T234.setTop (mkF m 129 #[.val (.long q0_0), .second, .val (.long q0_1), .second, .val (.int p0_2), .val (.long OFF), .second, .val (.int (p0_2 &&& (3 : Int32))), .val (.long ROOM), .second, .val (.long LIM), .second, .val (.int (bI (¬ ((p0_2 &&& (4 : Int32)) = (0 : Int32))))), .unset, .unset, .unset] [(.ref b234), (.ref b223), (.ref b223)])) _
        refine XS.dup X234.here hx rfl (hb hby at_129) rfl rfl ?_
        show Steps p.tables e below (T234.setTop (mkF m 130 #[.val (.long q0_0), .second, .val (.long q0_1), .second, .val (.int p0_2), .val (.long OFF), .second, .val (.int (p0_2 &&& (3 : Int32))), .val (.long ROOM), .second, .val (.long LIM), .second, .val (.int (bI (¬ ((p0_2 &&& (4 : Int32)) = (0 : Int32))))), .unset, .unset, .unset] [(.ref b234), (.ref b234), (.ref b223), (.ref b223)])) _
        refine st249.trans ?_
        exact k)
      have f252 := f237.keep K249
      have f253 := f238.keep K249 (ninS ne235 nin0)
      have f254 := f239.keep K249 (ninS ne235 nin0)
      have f255 := f240.keep K249 (ninS ne235 nin0)
      have f256 := f241.keep K249 (ninS ne235 nin0)
      have f257 := f242.keep K249 (ninS ne235 nin0)
      have f258 := f243.keep K249 (ninS ne235 nin0)
      have f259 := f244.keep K249 (ninS ne235 nin0)
      have f260 := A234.keep K249
      have z261 := Nat.le_trans z245 K249.1
      have o262 := o246.keep K249 (allS gz234 all0)
      obtain ⟨T263, h263, X263, e263, E263, A263, D263, -, st263⟩ := newO X249 hx hZ hown (hVV 4 _ rfl) (hVV 5 _ rfl) (hVV 6 _ rfl) rfl (g := (mkF m 133 #[.val (.long q0_0), .second, .val (.long q0_1), .second, .val (.int p0_2), .val (.long OFF), .second, .val (.int (p0_2 &&& (3 : Int32))), .val (.long ROOM), .second, .val (.long LIM), .second, .val (.int (bI (¬ ((p0_2 &&& (4 : Int32)) = (0 : Int32))))), .unset, .unset, .unset] [(.ref b234), (.ref b223), (.ref b223)])) rfl (hb hby at_133) (by decide) (by decide)
      obtain ⟨b263, g263⟩ : ∃ z, z = T249.heap.size := ⟨_, rfl⟩
      rw [← g263] at A263 D263 st263
      have gz263 : n0 ≤ b263 := Nat.le_trans z261 (Nat.le_of_eq g263.symm)
      have ne264 : b223 ≠ b263 := Nat.ne_of_lt (Nat.lt_of_lt_of_le f252.lt (Nat.le_of_eq g263.symm))
      have ne265 : b234 ≠ b263 := Nat.ne_of_lt (Nat.lt_of_lt_of_le r249_0.lt (Nat.le_of_eq g263.symm))
      have pre266 : ∀ t, Steps p.tables e below (T263.setTop (mkF m 136 #[.val (.long q0_0), .second, .val (.long q0_1), .second, .val (.int p0_2), .val (.long OFF), .second, .val (.int (p0_2 &&& (3 : Int32))), .val (.long ROOM), .second, .val (.long LIM), .second, .val (.int (bI (¬ ((p0_2 &&& (4 : Int32)) = (0 : Int32))))), .unset, .unset, .unset] [(.ref b263), (.ref b234), (.ref b223), (.ref b223)])) t → Steps p.tables e below (s₁.setTop (entryFrame m #[(.long q0_0), (.long q0_1), (.int p0_2)] maxLocals)) t := fun t k => pre251 t (by
        show Steps p.tables e below (T249.setTop (mkF m 133 #[.val (.long q0_0), .second, .val (.long q0_1), .second, .val (.int p0_2), .val (.long OFF), .second, .val (.int (p0_2 &&& (3 : Int32))), .val (.long ROOM), .second, .val (.long LIM), .second, .val (.int (bI (¬ ((p0_2 &&& (4 : Int32)) = (0 : Int32))))), .unset, .unset, .unset] [(.ref b234), (.ref b223), (.ref b223)])) _
        refine st263 _ ?_
        exact k)
      have f267 := f252.ext E263
      have f268 := f253.ext E263
      have f269 := f254.ext E263
      have f270 := f255.ext E263
      have f271 := f256.ext E263
      have f272 := f257.ext E263
      have f273 := f258.ext E263
      have f274 := f259.ext E263
      have f275 := r249_0.ext E263
      have f276 := r249_1.ext E263
      have f277 := r249_2.ext E263
      have z278 := Nat.le_trans z261 E263.1
      have o279 := o262.ext E263
      have f280 : Fld Z h263 b263 "java/util/AbstractList" "modCount" "I" (.int (0 : Int32)) := D263 (Or.inl (hVV 26 _ rfl)) (ty := .int) (by decide)
      have f281 : Fld Z h263 b263 "java/util/ArrayList" "elementData" "[Ljava/lang/Object;" .null := D263 (Or.inl (hVV 29 _ rfl)) (ty := (.array (.object "java/lang/Object"))) (by decide)
      obtain ⟨_, _, ⟨T282, L282, k282, n282⟩, -, X282, ⟨Lc282, hQ282, l282, y282, z282⟩, st282⟩ := X263.specialBack hx (y := (⟨"java/util/ArrayList", "<init>", "()V"⟩ : MethodName)) rfl hown (mvT hZ (hVV 7 _ rfl)) (mvT hZ (hVV 8 _ rfl)) (mvT hZ (hVV 9 _ rfl)) (by decide) (backOf (W := 4) (rm1 l Z a0 hw [] b263 (0 : Int32) .null w0_DEFAULTCAPACITY_EMPTY_ELEMENTDATA h263 n0 z278 o279 A263 f280 f281 gz263 S_DEFAULTCAPACITY_EMPTY_ELEMENTDATA) hZ (hVV 9 _ rfl) (hVV 6 _ rfl) (by decide) (by decide)) (g := (mkF m 137 #[.val (.long q0_0), .second, .val (.long q0_1), .second, .val (.int p0_2), .val (.long OFF), .second, .val (.int (p0_2 &&& (3 : Int32))), .val (.long ROOM), .second, .val (.long LIM), .second, .val (.int (bI (¬ ((p0_2 &&& (4 : Int32)) = (0 : Int32))))), .unset, .unset, .unset] [(.ref b263), (.ref b263), (.ref b234), (.ref b223), (.ref b223)])) rfl (by rw [hml]; rfl) (Steps.refl _) (a := b263) (argsL := []) (rest := [(.ref b263), (.ref b234), (.ref b223), (.ref b223)]) (lenOf pd_0 rfl) rfl (by show 2 * 0 + _ ≤ _; exact Nat.le_of_eq rfl) (hb hby at_137) (fun _ _ => ⟨rfl, e263, (by decide : 3 + 0 ≤ _), (by decide : 13 + 0 ≤ _)⟩)
      dsimp only [Pt.U, Pt.locs, Pt.cells, Pt.slots] at X282 l282 y282 z282 st282 hQ282
      subst l282 y282 z282
      obtain ⟨rfl, N282q, K282, r282_0, r282_1, r282_2⟩ := hQ282
      have N283 := Fr.app N250 N282q
      have pre284 : ∀ t, Steps p.tables e below (T282.setTop (mkF m 140 #[.val (.long q0_0), .second, .val (.long q0_1), .second, .val (.int p0_2), .val (.long OFF), .second, .val (.int (p0_2 &&& (3 : Int32))), .val (.long ROOM), .second, .val (.long LIM), .second, .val (.int (bI (¬ ((p0_2 &&& (4 : Int32)) = (0 : Int32))))), .unset, .unset, .unset] [(.ref b263), (.ref b234), (.ref b223), (.ref b223)])) t → Steps p.tables e below (s₁.setTop (entryFrame m #[(.long q0_0), (.long q0_1), (.int p0_2)] maxLocals)) t := fun t k => pre266 t (by
        show Steps p.tables e below (T263.setTop (mkF m 136 #[.val (.long q0_0), .second, .val (.long q0_1), .second, .val (.int p0_2), .val (.long OFF), .second, .val (.int (p0_2 &&& (3 : Int32))), .val (.long ROOM), .second, .val (.long LIM), .second, .val (.int (bI (¬ ((p0_2 &&& (4 : Int32)) = (0 : Int32))))), .unset, .unset, .unset] [(.ref b263), (.ref b234), (.ref b223), (.ref b223)])) _
        refine XS.dup X263.here hx rfl (hb hby at_136) rfl rfl ?_
        show Steps p.tables e below (T263.setTop (mkF m 137 #[.val (.long q0_0), .second, .val (.long q0_1), .second, .val (.int p0_2), .val (.long OFF), .second, .val (.int (p0_2 &&& (3 : Int32))), .val (.long ROOM), .second, .val (.long LIM), .second, .val (.int (bI (¬ ((p0_2 &&& (4 : Int32)) = (0 : Int32))))), .unset, .unset, .unset] [(.ref b263), (.ref b263), (.ref b234), (.ref b223), (.ref b223)])) _
        refine st282.trans ?_
        exact k)
      have f285 := f267.keep K282
      have f286 := f268.keep K282 (ninS ne264 nin0)
      have f287 := f269.keep K282 (ninS ne264 nin0)
      have f288 := f270.keep K282 (ninS ne264 nin0)
      have f289 := f271.keep K282 (ninS ne264 nin0)
      have f290 := f272.keep K282 (ninS ne264 nin0)
      have f291 := f273.keep K282 (ninS ne264 nin0)
      have f292 := f274.keep K282 (ninS ne264 nin0)
      have f293 := f275.keep K282
      have f294 := f276.keep K282 (ninS ne265 nin0)
      have f295 := f277.keep K282 (ninS ne265 nin0)
      have f296 := A263.keep K282
      have z297 := Nat.le_trans z278 K282.1
      have o298 := o279.keep K282 (allS gz263 all0)
      obtain ⟨T299, h299, X299, e299, E299, A299, D299, -, st299⟩ := newO X282 hx hZ hown (hVV 4 _ rfl) (hVV 5 _ rfl) (hVV 6 _ rfl) rfl (g := (mkF m 140 #[.val (.long q0_0), .second, .val (.long q0_1), .second, .val (.int p0_2), .val (.long OFF), .second, .val (.int (p0_2 &&& (3 : Int32))), .val (.long ROOM), .second, .val (.long LIM), .second, .val (.int (bI (¬ ((p0_2 &&& (4 : Int32)) = (0 : Int32))))), .unset, .unset, .unset] [(.ref b263), (.ref b234), (.ref b223), (.ref b223)])) rfl (hb hby at_140) (by decide) (by decide)
      obtain ⟨b299, g299⟩ : ∃ z, z = T282.heap.size := ⟨_, rfl⟩
      rw [← g299] at A299 D299 st299
      have gz299 : n0 ≤ b299 := Nat.le_trans z297 (Nat.le_of_eq g299.symm)
      have ne300 : b223 ≠ b299 := Nat.ne_of_lt (Nat.lt_of_lt_of_le f285.lt (Nat.le_of_eq g299.symm))
      have ne301 : b234 ≠ b299 := Nat.ne_of_lt (Nat.lt_of_lt_of_le f293.lt (Nat.le_of_eq g299.symm))
      have ne302 : b263 ≠ b299 := Nat.ne_of_lt (Nat.lt_of_lt_of_le r282_0.lt (Nat.le_of_eq g299.symm))
      have pre303 : ∀ t, Steps p.tables e below (T299.setTop (mkF m 143 #[.val (.long q0_0), .second, .val (.long q0_1), .second, .val (.int p0_2), .val (.long OFF), .second, .val (.int (p0_2 &&& (3 : Int32))), .val (.long ROOM), .second, .val (.long LIM), .second, .val (.int (bI (¬ ((p0_2 &&& (4 : Int32)) = (0 : Int32))))), .unset, .unset, .unset] [(.ref b299), (.ref b263), (.ref b234), (.ref b223), (.ref b223)])) t → Steps p.tables e below (s₁.setTop (entryFrame m #[(.long q0_0), (.long q0_1), (.int p0_2)] maxLocals)) t := fun t k => pre284 t (by
        show Steps p.tables e below (T282.setTop (mkF m 140 #[.val (.long q0_0), .second, .val (.long q0_1), .second, .val (.int p0_2), .val (.long OFF), .second, .val (.int (p0_2 &&& (3 : Int32))), .val (.long ROOM), .second, .val (.long LIM), .second, .val (.int (bI (¬ ((p0_2 &&& (4 : Int32)) = (0 : Int32))))), .unset, .unset, .unset] [(.ref b263), (.ref b234), (.ref b223), (.ref b223)])) _
        refine st299 _ ?_
        exact k)
      have f304 := f285.ext E299
      have f305 := f286.ext E299
      have f306 := f287.ext E299
      have f307 := f288.ext E299
      have f308 := f289.ext E299
      have f309 := f290.ext E299
      have f310 := f291.ext E299
      have f311 := f292.ext E299
      have f312 := f293.ext E299
      have f313 := f294.ext E299
      have f314 := f295.ext E299
      have f315 := r282_0.ext E299
      have f316 := r282_1.ext E299
      have f317 := r282_2.ext E299
      have z318 := Nat.le_trans z297 E299.1
      have o319 := o298.ext E299
      have f320 : Fld Z h299 b299 "java/util/AbstractList" "modCount" "I" (.int (0 : Int32)) := D299 (Or.inl (hVV 26 _ rfl)) (ty := .int) (by decide)
      have f321 : Fld Z h299 b299 "java/util/ArrayList" "elementData" "[Ljava/lang/Object;" .null := D299 (Or.inl (hVV 29 _ rfl)) (ty := (.array (.object "java/lang/Object"))) (by decide)
      obtain ⟨_, _, ⟨T322, L322, k322, n322⟩, -, X322, ⟨Lc322, hQ322, l322, y322, z322⟩, st322⟩ := X299.specialBack hx (y := (⟨"java/util/ArrayList", "<init>", "()V"⟩ : MethodName)) rfl hown (mvT hZ (hVV 7 _ rfl)) (mvT hZ (hVV 8 _ rfl)) (mvT hZ (hVV 9 _ rfl)) (by decide) (backOf (W := 5) (rm1 l Z a0 hw [] b299 (0 : Int32) .null w0_DEFAULTCAPACITY_EMPTY_ELEMENTDATA h299 n0 z318 o319 A299 f320 f321 gz299 S_DEFAULTCAPACITY_EMPTY_ELEMENTDATA) hZ (hVV 9 _ rfl) (hVV 6 _ rfl) (by decide) (by decide)) (g := (mkF m 144 #[.val (.long q0_0), .second, .val (.long q0_1), .second, .val (.int p0_2), .val (.long OFF), .second, .val (.int (p0_2 &&& (3 : Int32))), .val (.long ROOM), .second, .val (.long LIM), .second, .val (.int (bI (¬ ((p0_2 &&& (4 : Int32)) = (0 : Int32))))), .unset, .unset, .unset] [(.ref b299), (.ref b299), (.ref b263), (.ref b234), (.ref b223), (.ref b223)])) rfl (by rw [hml]; rfl) (Steps.refl _) (a := b299) (argsL := []) (rest := [(.ref b299), (.ref b263), (.ref b234), (.ref b223), (.ref b223)]) (lenOf pd_0 rfl) rfl (by show 2 * 0 + _ ≤ _; exact Nat.le_of_eq rfl) (hb hby at_144) (fun _ _ => ⟨rfl, e299, (by decide : 4 + 0 ≤ _), (by decide : 16 + 0 ≤ _)⟩)
      dsimp only [Pt.U, Pt.locs, Pt.cells, Pt.slots] at X322 l322 y322 z322 st322 hQ322
      subst l322 y322 z322
      obtain ⟨rfl, N322q, K322, r322_0, r322_1, r322_2⟩ := hQ322
      have N323 := Fr.app N283 N322q
      have pre324 : ∀ t, Steps p.tables e below (T322.setTop (mkF m 147 #[.val (.long q0_0), .second, .val (.long q0_1), .second, .val (.int p0_2), .val (.long OFF), .second, .val (.int (p0_2 &&& (3 : Int32))), .val (.long ROOM), .second, .val (.long LIM), .second, .val (.int (bI (¬ ((p0_2 &&& (4 : Int32)) = (0 : Int32))))), .unset, .unset, .unset] [(.ref b299), (.ref b263), (.ref b234), (.ref b223), (.ref b223)])) t → Steps p.tables e below (s₁.setTop (entryFrame m #[(.long q0_0), (.long q0_1), (.int p0_2)] maxLocals)) t := fun t k => pre303 t (by
        show Steps p.tables e below (T299.setTop (mkF m 143 #[.val (.long q0_0), .second, .val (.long q0_1), .second, .val (.int p0_2), .val (.long OFF), .second, .val (.int (p0_2 &&& (3 : Int32))), .val (.long ROOM), .second, .val (.long LIM), .second, .val (.int (bI (¬ ((p0_2 &&& (4 : Int32)) = (0 : Int32))))), .unset, .unset, .unset] [(.ref b299), (.ref b263), (.ref b234), (.ref b223), (.ref b223)])) _
        refine XS.dup X299.here hx rfl (hb hby at_143) rfl rfl ?_
        show Steps p.tables e below (T299.setTop (mkF m 144 #[.val (.long q0_0), .second, .val (.long q0_1), .second, .val (.int p0_2), .val (.long OFF), .second, .val (.int (p0_2 &&& (3 : Int32))), .val (.long ROOM), .second, .val (.long LIM), .second, .val (.int (bI (¬ ((p0_2 &&& (4 : Int32)) = (0 : Int32))))), .unset, .unset, .unset] [(.ref b299), (.ref b299), (.ref b263), (.ref b234), (.ref b223), (.ref b223)])) _
        refine st322.trans ?_
        exact k)
      have f325 := f304.keep K322
      have f326 := f305.keep K322 (ninS ne300 nin0)
      have f327 := f306.keep K322 (ninS ne300 nin0)
      have f328 := f307.keep K322 (ninS ne300 nin0)
      have f329 := f308.keep K322 (ninS ne300 nin0)
      have f330 := f309.keep K322 (ninS ne300 nin0)
      have f331 := f310.keep K322 (ninS ne300 nin0)
      have f332 := f311.keep K322 (ninS ne300 nin0)
      have f333 := f312.keep K322
      have f334 := f313.keep K322 (ninS ne301 nin0)
      have f335 := f314.keep K322 (ninS ne301 nin0)
      have f336 := f315.keep K322
      have f337 := f316.keep K322 (ninS ne302 nin0)
      have f338 := f317.keep K322 (ninS ne302 nin0)
      have f339 := A299.keep K322
      have z340 := Nat.le_trans z318 K322.1
      have o341 := o319.keep K322 (allS gz299 all0)
      obtain ⟨T342, h342, X342, e342, E342, A342, D342, -, st342⟩ := newO X322 hx hZ hown (hVV 4 _ rfl) (hVV 5 _ rfl) (hVV 6 _ rfl) rfl (g := (mkF m 149 #[.val (.long q0_0), .second, .val (.long q0_1), .second, .val (.int p0_2), .val (.long OFF), .second, .val (.int (p0_2 &&& (3 : Int32))), .val (.long ROOM), .second, .val (.long LIM), .second, .val (.int (bI (¬ ((p0_2 &&& (4 : Int32)) = (0 : Int32))))), .unset, .unset, .unset] [(.int (bI (¬ ((p0_2 &&& (4 : Int32)) = (0 : Int32))))), (.ref b299), (.ref b263), (.ref b234), (.ref b223), (.ref b223)])) rfl (hb hby at_149) (by decide) (by decide)
      obtain ⟨b342, g342⟩ : ∃ z, z = T322.heap.size := ⟨_, rfl⟩
      rw [← g342] at A342 D342 st342
      have gz342 : n0 ≤ b342 := Nat.le_trans z340 (Nat.le_of_eq g342.symm)
      have ne343 : b223 ≠ b342 := Nat.ne_of_lt (Nat.lt_of_lt_of_le f325.lt (Nat.le_of_eq g342.symm))
      have ne344 : b234 ≠ b342 := Nat.ne_of_lt (Nat.lt_of_lt_of_le f333.lt (Nat.le_of_eq g342.symm))
      have ne345 : b263 ≠ b342 := Nat.ne_of_lt (Nat.lt_of_lt_of_le f336.lt (Nat.le_of_eq g342.symm))
      have ne346 : b299 ≠ b342 := Nat.ne_of_lt (Nat.lt_of_lt_of_le r322_0.lt (Nat.le_of_eq g342.symm))
      have pre347 : ∀ t, Steps p.tables e below (T342.setTop (mkF m 152 #[.val (.long q0_0), .second, .val (.long q0_1), .second, .val (.int p0_2), .val (.long OFF), .second, .val (.int (p0_2 &&& (3 : Int32))), .val (.long ROOM), .second, .val (.long LIM), .second, .val (.int (bI (¬ ((p0_2 &&& (4 : Int32)) = (0 : Int32))))), .unset, .unset, .unset] [(.ref b342), (.int (bI (¬ ((p0_2 &&& (4 : Int32)) = (0 : Int32))))), (.ref b299), (.ref b263), (.ref b234), (.ref b223), (.ref b223)])) t → Steps p.tables e below (s₁.setTop (entryFrame m #[(.long q0_0), (.long q0_1), (.int p0_2)] maxLocals)) t := fun t k => pre324 t (by
        show Steps p.tables e below (T322.setTop (mkF m 147 #[.val (.long q0_0), .second, .val (.long q0_1), .second, .val (.int p0_2), .val (.long OFF), .second, .val (.int (p0_2 &&& (3 : Int32))), .val (.long ROOM), .second, .val (.long LIM), .second, .val (.int (bI (¬ ((p0_2 &&& (4 : Int32)) = (0 : Int32))))), .unset, .unset, .unset] [(.ref b299), (.ref b263), (.ref b234), (.ref b223), (.ref b223)])) _
        refine XS.iload X322.here hx rfl (hb hby at_147) rfl ?_
        show Steps p.tables e below (T322.setTop (mkF m 149 #[.val (.long q0_0), .second, .val (.long q0_1), .second, .val (.int p0_2), .val (.long OFF), .second, .val (.int (p0_2 &&& (3 : Int32))), .val (.long ROOM), .second, .val (.long LIM), .second, .val (.int (bI (¬ ((p0_2 &&& (4 : Int32)) = (0 : Int32))))), .unset, .unset, .unset] [(.int (bI (¬ ((p0_2 &&& (4 : Int32)) = (0 : Int32))))), (.ref b299), (.ref b263), (.ref b234), (.ref b223), (.ref b223)])) _
        refine st342 _ ?_
        exact k)
      have f348 := f325.ext E342
      have f349 := f326.ext E342
      have f350 := f327.ext E342
      have f351 := f328.ext E342
      have f352 := f329.ext E342
      have f353 := f330.ext E342
      have f354 := f331.ext E342
      have f355 := f332.ext E342
      have f356 := f333.ext E342
      have f357 := f334.ext E342
      have f358 := f335.ext E342
      have f359 := f336.ext E342
      have f360 := f337.ext E342
      have f361 := f338.ext E342
      have f362 := r322_0.ext E342
      have f363 := r322_1.ext E342
      have f364 := r322_2.ext E342
      have z365 := Nat.le_trans z340 E342.1
      have o366 := o341.ext E342
      have f367 : Fld Z h342 b342 "java/util/AbstractList" "modCount" "I" (.int (0 : Int32)) := D342 (Or.inl (hVV 26 _ rfl)) (ty := .int) (by decide)
      have f368 : Fld Z h342 b342 "java/util/ArrayList" "elementData" "[Ljava/lang/Object;" .null := D342 (Or.inl (hVV 29 _ rfl)) (ty := (.array (.object "java/lang/Object"))) (by decide)
      obtain ⟨_, _, ⟨T369, L369, k369, n369⟩, -, X369, ⟨Lc369, hQ369, l369, y369, z369⟩, st369⟩ := X342.specialBack hx (y := (⟨"java/util/ArrayList", "<init>", "()V"⟩ : MethodName)) rfl hown (mvT hZ (hVV 7 _ rfl)) (mvT hZ (hVV 8 _ rfl)) (mvT hZ (hVV 9 _ rfl)) (by decide) (backOf (W := 7) (rm1 l Z a0 hw [] b342 (0 : Int32) .null w0_DEFAULTCAPACITY_EMPTY_ELEMENTDATA h342 n0 z365 o366 A342 f367 f368 gz342 S_DEFAULTCAPACITY_EMPTY_ELEMENTDATA) hZ (hVV 9 _ rfl) (hVV 6 _ rfl) (by decide) (by decide)) (g := (mkF m 153 #[.val (.long q0_0), .second, .val (.long q0_1), .second, .val (.int p0_2), .val (.long OFF), .second, .val (.int (p0_2 &&& (3 : Int32))), .val (.long ROOM), .second, .val (.long LIM), .second, .val (.int (bI (¬ ((p0_2 &&& (4 : Int32)) = (0 : Int32))))), .unset, .unset, .unset] [(.ref b342), (.ref b342), (.int (bI (¬ ((p0_2 &&& (4 : Int32)) = (0 : Int32))))), (.ref b299), (.ref b263), (.ref b234), (.ref b223), (.ref b223)])) rfl (by rw [hml]; rfl) (Steps.refl _) (a := b342) (argsL := []) (rest := [(.ref b342), (.int (bI (¬ ((p0_2 &&& (4 : Int32)) = (0 : Int32))))), (.ref b299), (.ref b263), (.ref b234), (.ref b223), (.ref b223)]) (lenOf pd_0 rfl) rfl (by show 2 * 0 + _ ≤ _; exact Nat.le_of_eq rfl) (hb hby at_153) (fun _ _ => ⟨rfl, e342, (by decide : 5 + 0 ≤ _), (by decide : 19 + 0 ≤ _)⟩)
      dsimp only [Pt.U, Pt.locs, Pt.cells, Pt.slots] at X369 l369 y369 z369 st369 hQ369
      subst l369 y369 z369
      obtain ⟨rfl, N369q, K369, r369_0, r369_1, r369_2⟩ := hQ369
      have N370 := Fr.app N323 N369q
      have pre371 : ∀ t, Steps p.tables e below (T369.setTop (mkF m 156 #[.val (.long q0_0), .second, .val (.long q0_1), .second, .val (.int p0_2), .val (.long OFF), .second, .val (.int (p0_2 &&& (3 : Int32))), .val (.long ROOM), .second, .val (.long LIM), .second, .val (.int (bI (¬ ((p0_2 &&& (4 : Int32)) = (0 : Int32))))), .unset, .unset, .unset] [(.ref b342), (.int (bI (¬ ((p0_2 &&& (4 : Int32)) = (0 : Int32))))), (.ref b299), (.ref b263), (.ref b234), (.ref b223), (.ref b223)])) t → Steps p.tables e below (s₁.setTop (entryFrame m #[(.long q0_0), (.long q0_1), (.int p0_2)] maxLocals)) t := fun t k => pre347 t (by
        show Steps p.tables e below (T342.setTop (mkF m 152 #[.val (.long q0_0), .second, .val (.long q0_1), .second, .val (.int p0_2), .val (.long OFF), .second, .val (.int (p0_2 &&& (3 : Int32))), .val (.long ROOM), .second, .val (.long LIM), .second, .val (.int (bI (¬ ((p0_2 &&& (4 : Int32)) = (0 : Int32))))), .unset, .unset, .unset] [(.ref b342), (.int (bI (¬ ((p0_2 &&& (4 : Int32)) = (0 : Int32))))), (.ref b299), (.ref b263), (.ref b234), (.ref b223), (.ref b223)])) _
        refine XS.dup X342.here hx rfl (hb hby at_152) rfl rfl ?_
        show Steps p.tables e below (T342.setTop (mkF m 153 #[.val (.long q0_0), .second, .val (.long q0_1), .second, .val (.int p0_2), .val (.long OFF), .second, .val (.int (p0_2 &&& (3 : Int32))), .val (.long ROOM), .second, .val (.long LIM), .second, .val (.int (bI (¬ ((p0_2 &&& (4 : Int32)) = (0 : Int32))))), .unset, .unset, .unset] [(.ref b342), (.ref b342), (.int (bI (¬ ((p0_2 &&& (4 : Int32)) = (0 : Int32))))), (.ref b299), (.ref b263), (.ref b234), (.ref b223), (.ref b223)])) _
        refine st369.trans ?_
        exact k)
      have f372 := f348.keep K369
      have f373 := f349.keep K369 (ninS ne343 nin0)
      have f374 := f350.keep K369 (ninS ne343 nin0)
      have f375 := f351.keep K369 (ninS ne343 nin0)
      have f376 := f352.keep K369 (ninS ne343 nin0)
      have f377 := f353.keep K369 (ninS ne343 nin0)
      have f378 := f354.keep K369 (ninS ne343 nin0)
      have f379 := f355.keep K369 (ninS ne343 nin0)
      have f380 := f356.keep K369
      have f381 := f357.keep K369 (ninS ne344 nin0)
      have f382 := f358.keep K369 (ninS ne344 nin0)
      have f383 := f359.keep K369
      have f384 := f360.keep K369 (ninS ne345 nin0)
      have f385 := f361.keep K369 (ninS ne345 nin0)
      have f386 := f362.keep K369
      have f387 := f363.keep K369 (ninS ne346 nin0)
      have f388 := f364.keep K369 (ninS ne346 nin0)
      have f389 := A342.keep K369
      have z390 := Nat.le_trans z365 K369.1
      have o391 := o366.keep K369 (allS gz342 all0)
      obtain ⟨_, _, ⟨T392, L392, k392, n392⟩, -, X392, ⟨Lc392, hQ392, l392, y392, z392⟩, st392⟩ := X369.specialBack hx (y := (⟨"com/example/tripleshard/tripleshard/sparql/Query", "<init>", "(Ljava/util/List;Ljava/util/List;Ljava/util/List;ZLjava/util/List;JJ)V"⟩ : MethodName)) rfl hown (mvT hZ (hVV 30 _ rfl)) (mvT hZ (hVV 31 _ rfl)) (mvT hZ (hVV 32 _ rfl)) (by decide) (backOf (W := 1) (rm5 l Z a0 hw [] b223 b234 b263 b299 (bI (¬ ((p0_2 &&& (4 : Int32)) = (0 : Int32)))) b342 OFF LIM .null .null .null (0 : Int32) .null (0 : Int64) (0 : Int64) T369.heap n0 z390 f372 f373 f374 f375 f376 f377 f378 f379 gz223) hZ (hVV 32 _ rfl) (hVV 3 _ rfl) (by decide) (by decide)) (g := (mkF m 160 #[.val (.long q0_0), .second, .val (.long q0_1), .second, .val (.int p0_2), .val (.long OFF), .second, .val (.int (p0_2 &&& (3 : Int32))), .val (.long ROOM), .second, .val (.long LIM), .second, .val (.int (bI (¬ ((p0_2 &&& (4 : Int32)) = (0 : Int32))))), .unset, .unset, .unset] [(.long LIM), (.long OFF), (.ref b342), (.int (bI (¬ ((p0_2 &&& (4 : Int32)) = (0 : Int32))))), (.ref b299), (.ref b263), (.ref b234), (.ref b223), (.ref b223)])) rfl (by rw [hml]; rfl) (Steps.refl _) (a := b223) (argsL := [(.ref b234), (.ref b263), (.ref b299), (.int (bI (¬ ((p0_2 &&& (4 : Int32)) = (0 : Int32))))), (.ref b342), (.long OFF), (.long LIM)]) (rest := [(.ref b223)]) (lenOf pd_1 rfl) rfl (by show 2 * 0 + _ ≤ _; exact Nat.le_of_eq rfl) (hb hby at_160) (fun _ _ => ⟨rfl, rfl, (by decide : 5 + 0 ≤ _), (by decide : 19 + 0 ≤ _)⟩)
      dsimp only [Pt.U, Pt.locs, Pt.cells, Pt.slots] at X392 l392 y392 z392 st392 hQ392
      subst l392 y392 z392
      obtain ⟨rfl, N392q, K392, r392_0, r392_1, r392_2, r392_3, r392_4, r392_5, r392_6, r392_7⟩ := hQ392
      have N393 := Fr.app N370 N392q
      have pre394 : ∀ t, Steps p.tables e below (T392.setTop (mkF m 163 #[.val (.long q0_0), .second, .val (.long q0_1), .second, .val (.int p0_2), .val (.long OFF), .second, .val (.int (p0_2 &&& (3 : Int32))), .val (.long ROOM), .second, .val (.long LIM), .second, .val (.int (bI (¬ ((p0_2 &&& (4 : Int32)) = (0 : Int32))))), .unset, .unset, .unset] [(.ref b223)])) t → Steps p.tables e below (s₁.setTop (entryFrame m #[(.long q0_0), (.long q0_1), (.int p0_2)] maxLocals)) t := fun t k => pre371 t (by
        show Steps p.tables e below (T369.setTop (mkF m 156 #[.val (.long q0_0), .second, .val (.long q0_1), .second, .val (.int p0_2), .val (.long OFF), .second, .val (.int (p0_2 &&& (3 : Int32))), .val (.long ROOM), .second, .val (.long LIM), .second, .val (.int (bI (¬ ((p0_2 &&& (4 : Int32)) = (0 : Int32))))), .unset, .unset, .unset] [(.ref b342), (.int (bI (¬ ((p0_2 &&& (4 : Int32)) = (0 : Int32))))), (.ref b299), (.ref b263), (.ref b234), (.ref b223), (.ref b223)])) _
        refine XS.lload X369.here hx rfl (hb hby at_156) rfl ?_
        show Steps p.tables e below (T369.setTop (mkF m 158 #[.val (.long q0_0), .second, .val (.long q0_1), .second, .val (.int p0_2), .val (.long OFF), .second, .val (.int (p0_2 &&& (3 : Int32))), .val (.long ROOM), .second, .val (.long LIM), .second, .val (.int (bI (¬ ((p0_2 &&& (4 : Int32)) = (0 : Int32))))), .unset, .unset, .unset] [(.long OFF), (.ref b342), (.int (bI (¬ ((p0_2 &&& (4 : Int32)) = (0 : Int32))))), (.ref b299), (.ref b263), (.ref b234), (.ref b223), (.ref b223)])) _
        refine XS.lload X369.here hx rfl (hb hby at_158) rfl ?_
        show Steps p.tables e below (T369.setTop (mkF m 160 #[.val (.long q0_0), .second, .val (.long q0_1), .second, .val (.int p0_2), .val (.long OFF), .second, .val (.int (p0_2 &&& (3 : Int32))), .val (.long ROOM), .second, .val (.long LIM), .second, .val (.int (bI (¬ ((p0_2 &&& (4 : Int32)) = (0 : Int32))))), .unset, .unset, .unset] [(.long LIM), (.long OFF), (.ref b342), (.int (bI (¬ ((p0_2 &&& (4 : Int32)) = (0 : Int32))))), (.ref b299), (.ref b263), (.ref b234), (.ref b223), (.ref b223)])) _
        refine st392.trans ?_
        exact k)
      have f395 := f372.keep K392
      have f396 := f380.keep K392
      have f397 := f381.keep K392 (ninS (Ne.symm ne235) nin0)
      have f398 := f382.keep K392 (ninS (Ne.symm ne235) nin0)
      have f399 := f383.keep K392
      have f400 := f384.keep K392 (ninS (Ne.symm ne264) nin0)
      have f401 := f385.keep K392 (ninS (Ne.symm ne264) nin0)
      have f402 := f386.keep K392
      have f403 := f387.keep K392 (ninS (Ne.symm ne300) nin0)
      have f404 := f388.keep K392 (ninS (Ne.symm ne300) nin0)
      have f405 := r369_0.keep K392
      have f406 := r369_1.keep K392 (ninS (Ne.symm ne343) nin0)
      have f407 := r369_2.keep K392 (ninS (Ne.symm ne343) nin0)
      have z408 := Nat.le_trans z390 K392.1
      have o409 := o391.keep K392 (allS gz223 all0)
      have pre411 : ∀ t, Steps p.tables e below (T392.setTop (mkF m 174 #[.val (.long q0_0), .second, .val (.long q0_1), .second, .val (.int p0_2), .val (.long OFF), .second, .val (.int (p0_2 &&& (3 : Int32))), .val (.long ROOM), .second, .val (.long LIM), .second, .val (.int (bI (¬ ((p0_2 &&& (4 : Int32)) = (0 : Int32))))), .val (.ref b223), .unset, .unset] [(.int (lcmpW OFF ((9223372036854775807 : Int64) - LIM)))])) t → Steps p.tables e below (s₁.setTop (entryFrame m #[(.long q0_0), (.long q0_1), (.int p0_2)] maxLocals)) t := fun t k => pre394 t (by
        show Steps p.tables e below (T392.setTop (mkF m 163 #[.val (.long q0_0), .second, .val (.long q0_1), .second, .val (.int p0_2), .val (.long OFF), .second, .val (.int (p0_2 &&& (3 : Int32))), .val (.long ROOM), .second, .val (.long LIM), .second, .val (.int (bI (¬ ((p0_2 &&& (4 : Int32)) = (0 : Int32))))), .unset, .unset, .unset] [(.ref b223)])) _
        refine XS.astore X392.here hx rfl (hb hby at_163) rfl rfl (l' := #[.val (.long q0_0), .second, .val (.long q0_1), .second, .val (.int p0_2), .val (.long OFF), .second, .val (.int (p0_2 &&& (3 : Int32))), .val (.long ROOM), .second, .val (.long LIM), .second, .val (.int (bI (¬ ((p0_2 &&& (4 : Int32)) = (0 : Int32))))), .val (.ref b223), .unset, .unset]) rfl ?_
        show Steps p.tables e below (T392.setTop (mkF m 165 #[.val (.long q0_0), .second, .val (.long q0_1), .second, .val (.int p0_2), .val (.long OFF), .second, .val (.int (p0_2 &&& (3 : Int32))), .val (.long ROOM), .second, .val (.long LIM), .second, .val (.int (bI (¬ ((p0_2 &&& (4 : Int32)) = (0 : Int32))))), .val (.ref b223), .unset, .unset] [])) _
        refine XS.lload X392.here hx rfl (hb hby at_165) rfl ?_
        show Steps p.tables e below (T392.setTop (mkF m 167 #[.val (.long q0_0), .second, .val (.long q0_1), .second, .val (.int p0_2), .val (.long OFF), .second, .val (.int (p0_2 &&& (3 : Int32))), .val (.long ROOM), .second, .val (.long LIM), .second, .val (.int (bI (¬ ((p0_2 &&& (4 : Int32)) = (0 : Int32))))), .val (.ref b223), .unset, .unset] [(.long OFF)])) _
        refine X392.ldc2Long hx hown (mvT hZ (hVV 0 _ rfl)) (g := (mkF m 167 #[.val (.long q0_0), .second, .val (.long q0_1), .second, .val (.int p0_2), .val (.long OFF), .second, .val (.int (p0_2 &&& (3 : Int32))), .val (.long ROOM), .second, .val (.long LIM), .second, .val (.int (bI (¬ ((p0_2 &&& (4 : Int32)) = (0 : Int32))))), .val (.ref b223), .unset, .unset] [(.long OFF)])) rfl (hb hby at_167) _ ?_
        show Steps p.tables e below (T392.setTop (mkF m 170 #[.val (.long q0_0), .second, .val (.long q0_1), .second, .val (.int p0_2), .val (.long OFF), .second, .val (.int (p0_2 &&& (3 : Int32))), .val (.long ROOM), .second, .val (.long LIM), .second, .val (.int (bI (¬ ((p0_2 &&& (4 : Int32)) = (0 : Int32))))), .val (.ref b223), .unset, .unset] [(.long (9223372036854775807 : Int64)), (.long OFF)])) _
        refine XS.lload X392.here hx rfl (hb hby at_170) rfl ?_
        show Steps p.tables e below (T392.setTop (mkF m 172 #[.val (.long q0_0), .second, .val (.long q0_1), .second, .val (.int p0_2), .val (.long OFF), .second, .val (.int (p0_2 &&& (3 : Int32))), .val (.long ROOM), .second, .val (.long LIM), .second, .val (.int (bI (¬ ((p0_2 &&& (4 : Int32)) = (0 : Int32))))), .val (.ref b223), .unset, .unset] [(.long LIM), (.long (9223372036854775807 : Int64)), (.long OFF)])) _
        refine XS.lsub X392.here hx rfl (hb hby at_172) rfl ?_
        show Steps p.tables e below (T392.setTop (mkF m 173 #[.val (.long q0_0), .second, .val (.long q0_1), .second, .val (.int p0_2), .val (.long OFF), .second, .val (.int (p0_2 &&& (3 : Int32))), .val (.long ROOM), .second, .val (.long LIM), .second, .val (.int (bI (¬ ((p0_2 &&& (4 : Int32)) = (0 : Int32))))), .val (.ref b223), .unset, .unset] [(.long ((9223372036854775807 : Int64) - LIM)), (.long OFF)])) _
        refine XS.lcmp X392.here hx rfl (hb hby at_173) rfl ?_
        exact k)
      have pre412 : ∀ t, Steps p.tables e below (T392.setTop (mkF m 188 #[.val (.long q0_0), .second, .val (.long q0_1), .second, .val (.int p0_2), .val (.long OFF), .second, .val (.int (p0_2 &&& (3 : Int32))), .val (.long ROOM), .second, .val (.long LIM), .second, .val (.int (bI (¬ ((p0_2 &&& (4 : Int32)) = (0 : Int32))))), .val (.ref b223), .unset, .unset] [(.long (if ((9223372036854775807 : Int64) - LIM) < OFF then (9223372036854775807 : Int64) else (OFF + LIM)))])) t → Steps p.tables e below (s₁.setTop (entryFrame m #[(.long q0_0), (.long q0_1), (.int p0_2)] maxLocals)) t := fun t k => pre411 t (by
        by_cases hc410 : ((9223372036854775807 : Int64) - LIM) < OFF
        · show Steps p.tables e below (T392.setTop (mkF m 174 #[.val (.long q0_0), .second, .val (.long q0_1), .second, .val (.int p0_2), .val (.long OFF), .second, .val (.int (p0_2 &&& (3 : Int32))), .val (.long ROOM), .second, .val (.long LIM), .second, .val (.int (bI (¬ ((p0_2 &&& (4 : Int32)) = (0 : Int32))))), .val (.ref b223), .unset, .unset] [(.int (lcmpW OFF ((9223372036854775807 : Int64) - LIM)))])) _
          refine XS.ifNo X392.here hx rfl (hb hby at_174) rfl ((if0 _ _).trans (tlt ((lw_gt _ _).mpr hc410)).2.2.2) ?_
          show Steps p.tables e below (T392.setTop (mkF m 177 #[.val (.long q0_0), .second, .val (.long q0_1), .second, .val (.int p0_2), .val (.long OFF), .second, .val (.int (p0_2 &&& (3 : Int32))), .val (.long ROOM), .second, .val (.long LIM), .second, .val (.int (bI (¬ ((p0_2 &&& (4 : Int32)) = (0 : Int32))))), .val (.ref b223), .unset, .unset] [])) _
          refine X392.ldc2Long hx hown (mvT hZ (hVV 0 _ rfl)) (g := (mkF m 177 #[.val (.long q0_0), .second, .val (.long q0_1), .second, .val (.int p0_2), .val (.long OFF), .second, .val (.int (p0_2 &&& (3 : Int32))), .val (.long ROOM), .second, .val (.long LIM), .second, .val (.int (bI (¬ ((p0_2 &&& (4 : Int32)) = (0 : Int32))))), .val (.ref b223), .unset, .unset] [])) rfl (hb hby at_177) _ ?_
          show Steps p.tables e below (T392.setTop (mkF m 180 #[.val (.long q0_0), .second, .val (.long q0_1), .second, .val (.int p0_2), .val (.long OFF), .second, .val (.int (p0_2 &&& (3 : Int32))), .val (.long ROOM), .second, .val (.long LIM), .second, .val (.int (bI (¬ ((p0_2 &&& (4 : Int32)) = (0 : Int32))))), .val (.ref b223), .unset, .unset] [(.long (9223372036854775807 : Int64))])) _
          refine XS.goto X392.here hx rfl (pc0 := 180) (pc' := 188) rfl (hb hby at_180) (by decide) (by decide) ?_
          have q413 : (if ((9223372036854775807 : Int64) - LIM) < OFF then (9223372036854775807 : Int64) else (OFF + LIM)) = (9223372036854775807 : Int64) := (if_pos hc410)
          exact castTop (g := (mkF m 188 #[.val (.long q0_0), .second, .val (.long q0_1), .second, .val (.int p0_2), .val (.long OFF), .second, .val (.int (p0_2 &&& (3 : Int32))), .val (.long ROOM), .second, .val (.long LIM), .second, .val (.int (bI (¬ ((p0_2 &&& (4 : Int32)) = (0 : Int32))))), .val (.ref b223), .unset, .unset] [(.long (9223372036854775807 : Int64))])) (g' := (mkF m 188 #[.val (.long q0_0), .second, .val (.long q0_1), .second, .val (.int p0_2), .val (.long OFF), .second, .val (.int (p0_2 &&& (3 : Int32))), .val (.long ROOM), .second, .val (.long LIM), .second, .val (.int (bI (¬ ((p0_2 &&& (4 : Int32)) = (0 : Int32))))), .val (.ref b223), .unset, .unset] [(.long (if ((9223372036854775807 : Int64) - LIM) < OFF then (9223372036854775807 : Int64) else (OFF + LIM)))])) (by simp only [q413]) k
        · show Steps p.tables e below (T392.setTop (mkF m 174 #[.val (.long q0_0), .second, .val (.long q0_1), .second, .val (.int p0_2), .val (.long OFF), .second, .val (.int (p0_2 &&& (3 : Int32))), .val (.long ROOM), .second, .val (.long LIM), .second, .val (.int (bI (¬ ((p0_2 &&& (4 : Int32)) = (0 : Int32))))), .val (.ref b223), .unset, .unset] [(.int (lcmpW OFF ((9223372036854775807 : Int64) - LIM)))])) _
          refine XS.ifYes X392.here hx rfl (pc0 := 174) (pc' := 183) rfl (hb hby at_174) rfl ((if0 _ _).trans (flt (fun q => hc410 ((lw_gt _ _).mp q))).2.2.2) (by decide) (by decide) ?_
          show Steps p.tables e below (T392.setTop (mkF m 183 #[.val (.long q0_0), .second, .val (.long q0_1), .second, .val (.int p0_2), .val (.long OFF), .second, .val (.int (p0_2 &&& (3 : Int32))), .val (.long ROOM), .second, .val (.long LIM), .second, .val (.int (bI (¬ ((p0_2 &&& (4 : Int32)) = (0 : Int32))))), .val (.ref b223), .unset, .unset] [])) _
          refine XS.lload X392.here hx rfl (hb hby at_183) rfl ?_
          show Steps p.tables e below (T392.setTop (mkF m 185 #[.val (.long q0_0), .second, .val (.long q0_1), .second, .val (.int p0_2), .val (.long OFF), .second, .val (.int (p0_2 &&& (3 : Int32))), .val (.long ROOM), .second, .val (.long LIM), .second, .val (.int (bI (¬ ((p0_2 &&& (4 : Int32)) = (0 : Int32))))), .val (.ref b223), .unset, .unset] [(.long OFF)])) _
          refine XS.lload X392.here hx rfl (hb hby at_185) rfl ?_
          show Steps p.tables e below (T392.setTop (mkF m 187 #[.val (.long q0_0), .second, .val (.long q0_1), .second, .val (.int p0_2), .val (.long OFF), .second, .val (.int (p0_2 &&& (3 : Int32))), .val (.long ROOM), .second, .val (.long LIM), .second, .val (.int (bI (¬ ((p0_2 &&& (4 : Int32)) = (0 : Int32))))), .val (.ref b223), .unset, .unset] [(.long LIM), (.long OFF)])) _
          refine XS.ladd X392.here hx rfl (hb hby at_187) rfl ?_
          have q414 : (if ((9223372036854775807 : Int64) - LIM) < OFF then (9223372036854775807 : Int64) else (OFF + LIM)) = (OFF + LIM) := (if_neg hc410)
          exact castTop (g := (mkF m 188 #[.val (.long q0_0), .second, .val (.long q0_1), .second, .val (.int p0_2), .val (.long OFF), .second, .val (.int (p0_2 &&& (3 : Int32))), .val (.long ROOM), .second, .val (.long LIM), .second, .val (.int (bI (¬ ((p0_2 &&& (4 : Int32)) = (0 : Int32))))), .val (.ref b223), .unset, .unset] [(.long (OFF + LIM))])) (g' := (mkF m 188 #[.val (.long q0_0), .second, .val (.long q0_1), .second, .val (.int p0_2), .val (.long OFF), .second, .val (.int (p0_2 &&& (3 : Int32))), .val (.long ROOM), .second, .val (.long LIM), .second, .val (.int (bI (¬ ((p0_2 &&& (4 : Int32)) = (0 : Int32))))), .val (.ref b223), .unset, .unset] [(.long (if ((9223372036854775807 : Int64) - LIM) < OFF then (9223372036854775807 : Int64) else (OFF + LIM)))])) (by simp only [q414]) k)
      obtain ⟨cq415, kq415, q415a, q415b, q415c⟩ := isOf hZ rfl r392_0
      obtain ⟨_, _, ⟨T415, L415, k415, n415⟩, -, X415, ⟨Lc415, hQ415, l415, y415, z415⟩, st415⟩ := X392.virtualBack hx (y := (⟨"com/example/tripleshard/tripleshard/sparql/Query", "sliceEnd", "()J"⟩ : MethodName)) (z := (⟨"com/example/tripleshard/tripleshard/sparql/Query", "sliceEnd", "()J"⟩ : MethodName)) hown (mvT hZ (hVV 53 _ rfl)) (mvT hZ (hVV 54 _ rfl)) (notFace_of_selects (args := #[]) (mvT hZ (hVV 56 _ rfl))) (mvT hZ (hVV 56 _ rfl)) (mvT hZ (hVV 55 _ rfl)) (by decide) (backOf (W := 0) (rm7 l Z a0 hw [] b223 OFF LIM T392.heap n0 z408 r392_6 r392_7) hZ (hVV 57 _ rfl) (hVV 3 _ rfl) (by decide) (by decide)) q415a q415c (g := (mkF m 192 #[.val (.long q0_0), .second, .val (.long q0_1), .second, .val (.int p0_2), .val (.long OFF), .second, .val (.int (p0_2 &&& (3 : Int32))), .val (.long ROOM), .second, .val (.long LIM), .second, .val (.int (bI (¬ ((p0_2 &&& (4 : Int32)) = (0 : Int32))))), .val (.ref b223), .val (.long (if ((9223372036854775807 : Int64) - LIM) < OFF then (9223372036854775807 : Int64) else (OFF + LIM))), .second] [(.ref b223)])) rfl (by rw [hml]; rfl) (Steps.refl _) (argsL := []) (rest := []) (lenOf pd_2 rfl) rfl (by show 2 * 0 + _ ≤ _; exact Nat.le_of_eq rfl) (hb hby at_192) (fun _ _ => ⟨rfl, rfl, (by decide : 5 + 0 ≤ _), (by decide : 19 + 0 ≤ _)⟩)
      dsimp only [Pt.U, Pt.locs, Pt.cells, Pt.slots] at X415 l415 y415 z415 st415 hQ415
      subst l415 y415 z415
      obtain ⟨rfl, N415q, e415⟩ := hQ415
      have N416 := Fr.app N393 N415q
      have pre417 : ∀ t, Steps p.tables e below (T415.setTop (mkF m 195 #[.val (.long q0_0), .second, .val (.long q0_1), .second, .val (.int p0_2), .val (.long OFF), .second, .val (.int (p0_2 &&& (3 : Int32))), .val (.long ROOM), .second, .val (.long LIM), .second, .val (.int (bI (¬ ((p0_2 &&& (4 : Int32)) = (0 : Int32))))), .val (.ref b223), .val (.long (if ((9223372036854775807 : Int64) - LIM) < OFF then (9223372036854775807 : Int64) else (OFF + LIM))), .second] [(.long (if (OFF + LIM) < (0 : Int64) then (9223372036854775807 : Int64) else (OFF + LIM)))])) t → Steps p.tables e below (s₁.setTop (entryFrame m #[(.long q0_0), (.long q0_1), (.int p0_2)] maxLocals)) t := fun t k => pre412 t (by
        show Steps p.tables e below (T392.setTop (mkF m 188 #[.val (.long q0_0), .second, .val (.long q0_1), .second, .val (.int p0_2), .val (.long OFF), .second, .val (.int (p0_2 &&& (3 : Int32))), .val (.long ROOM), .second, .val (.long LIM), .second, .val (.int (bI (¬ ((p0_2 &&& (4 : Int32)) = (0 : Int32))))), .val (.ref b223), .unset, .unset] [(.long (if ((9223372036854775807 : Int64) - LIM) < OFF then (9223372036854775807 : Int64) else (OFF + LIM)))])) _
        refine XS.lstore X392.here hx rfl (hb hby at_188) rfl (l' := #[.val (.long q0_0), .second, .val (.long q0_1), .second, .val (.int p0_2), .val (.long OFF), .second, .val (.int (p0_2 &&& (3 : Int32))), .val (.long ROOM), .second, .val (.long LIM), .second, .val (.int (bI (¬ ((p0_2 &&& (4 : Int32)) = (0 : Int32))))), .val (.ref b223), .val (.long (if ((9223372036854775807 : Int64) - LIM) < OFF then (9223372036854775807 : Int64) else (OFF + LIM))), .second]) rfl ?_
        show Steps p.tables e below (T392.setTop (mkF m 190 #[.val (.long q0_0), .second, .val (.long q0_1), .second, .val (.int p0_2), .val (.long OFF), .second, .val (.int (p0_2 &&& (3 : Int32))), .val (.long ROOM), .second, .val (.long LIM), .second, .val (.int (bI (¬ ((p0_2 &&& (4 : Int32)) = (0 : Int32))))), .val (.ref b223), .val (.long (if ((9223372036854775807 : Int64) - LIM) < OFF then (9223372036854775807 : Int64) else (OFF + LIM))), .second] [])) _
        refine XS.aload X392.here hx rfl (hb hby at_190) rfl rfl ?_
        show Steps p.tables e below (T392.setTop (mkF m 192 #[.val (.long q0_0), .second, .val (.long q0_1), .second, .val (.int p0_2), .val (.long OFF), .second, .val (.int (p0_2 &&& (3 : Int32))), .val (.long ROOM), .second, .val (.long LIM), .second, .val (.int (bI (¬ ((p0_2 &&& (4 : Int32)) = (0 : Int32))))), .val (.ref b223), .val (.long (if ((9223372036854775807 : Int64) - LIM) < OFF then (9223372036854775807 : Int64) else (OFF + LIM))), .second] [(.ref b223)])) _
        refine st415.trans ?_
        exact k)
      have hd418 : (lcmpW (if (OFF + LIM) < (0 : Int64) then (9223372036854775807 : Int64) else (OFF + LIM)) (if ((9223372036854775807 : Int64) - LIM) < OFF then (9223372036854775807 : Int64) else (OFF + LIM))) = (0 : Int32) := by
        exact (lw_eq _ _).mpr (own_fin OFF LIM hOFF0 hLIM0)
      obtain ⟨fs, hr, hrun, hended, hW, hsame⟩ := X415.leave (v := some (.int (1 : Int32))) (fun h => by rw [Bd.returns] at h; cases h)
      refine ⟨_, _, pre417 _ ?_, hrun, hended, _, _, rfl, ?_, ⟨_, rfl⟩, hW, hsame.mono (by decide) (by decide)⟩
      · show Steps p.tables e below (T415.setTop (mkF m 195 #[.val (.long q0_0), .second, .val (.long q0_1), .second, .val (.int p0_2), .val (.long OFF), .second, .val (.int (p0_2 &&& (3 : Int32))), .val (.long ROOM), .second, .val (.long LIM), .second, .val (.int (bI (¬ ((p0_2 &&& (4 : Int32)) = (0 : Int32))))), .val (.ref b223), .val (.long (if ((9223372036854775807 : Int64) - LIM) < OFF then (9223372036854775807 : Int64) else (OFF + LIM))), .second] [(.long (if (OFF + LIM) < (0 : Int64) then (9223372036854775807 : Int64) else (OFF + LIM)))])) _
        refine XS.lload X415.here hx rfl (hb hby at_195) rfl ?_
        show Steps p.tables e below (T415.setTop (mkF m 197 #[.val (.long q0_0), .second, .val (.long q0_1), .second, .val (.int p0_2), .val (.long OFF), .second, .val (.int (p0_2 &&& (3 : Int32))), .val (.long ROOM), .second, .val (.long LIM), .second, .val (.int (bI (¬ ((p0_2 &&& (4 : Int32)) = (0 : Int32))))), .val (.ref b223), .val (.long (if ((9223372036854775807 : Int64) - LIM) < OFF then (9223372036854775807 : Int64) else (OFF + LIM))), .second] [(.long (if ((9223372036854775807 : Int64) - LIM) < OFF then (9223372036854775807 : Int64) else (OFF + LIM))), (.long (if (OFF + LIM) < (0 : Int64) then (9223372036854775807 : Int64) else (OFF + LIM)))])) _
        refine XS.lcmp X415.here hx rfl (hb hby at_197) rfl ?_
        show Steps p.tables e below (T415.setTop (mkF m 198 #[.val (.long q0_0), .second, .val (.long q0_1), .second, .val (.int p0_2), .val (.long OFF), .second, .val (.int (p0_2 &&& (3 : Int32))), .val (.long ROOM), .second, .val (.long LIM), .second, .val (.int (bI (¬ ((p0_2 &&& (4 : Int32)) = (0 : Int32))))), .val (.ref b223), .val (.long (if ((9223372036854775807 : Int64) - LIM) < OFF then (9223372036854775807 : Int64) else (OFF + LIM))), .second] [(.int (lcmpW (if (OFF + LIM) < (0 : Int64) then (9223372036854775807 : Int64) else (OFF + LIM)) (if ((9223372036854775807 : Int64) - LIM) < OFF then (9223372036854775807 : Int64) else (OFF + LIM))))])) _
        refine XS.ifNo X415.here hx rfl (hb hby at_198) rfl ((if0 _ _).trans (teq hd418).2) ?_
        show Steps p.tables e below (T415.setTop (mkF m 201 #[.val (.long q0_0), .second, .val (.long q0_1), .second, .val (.int p0_2), .val (.long OFF), .second, .val (.int (p0_2 &&& (3 : Int32))), .val (.long ROOM), .second, .val (.long LIM), .second, .val (.int (bI (¬ ((p0_2 &&& (4 : Int32)) = (0 : Int32))))), .val (.ref b223), .val (.long (if ((9223372036854775807 : Int64) - LIM) < OFF then (9223372036854775807 : Int64) else (OFF + LIM))), .second] [])) _
        refine XS.iconst X415.here hx rfl (hb hby at_201) ?_
        show Steps p.tables e below (T415.setTop (mkF m 202 #[.val (.long q0_0), .second, .val (.long q0_1), .second, .val (.int p0_2), .val (.long OFF), .second, .val (.int (p0_2 &&& (3 : Int32))), .val (.long ROOM), .second, .val (.long LIM), .second, .val (.int (bI (¬ ((p0_2 &&& (4 : Int32)) = (0 : Int32))))), .val (.ref b223), .val (.long (if ((9223372036854775807 : Int64) - LIM) < OFF then (9223372036854775807 : Int64) else (OFF + LIM))), .second] [(.int (1 : Int32))])) _
        refine XS.goto X415.here hx rfl (pc0 := 202) (pc' := 206) rfl (hb hby at_202) (by decide) (by decide) ?_
        show Steps p.tables e below (T415.setTop (mkF m 206 #[.val (.long q0_0), .second, .val (.long q0_1), .second, .val (.int p0_2), .val (.long OFF), .second, .val (.int (p0_2 &&& (3 : Int32))), .val (.long ROOM), .second, .val (.long LIM), .second, .val (.int (bI (¬ ((p0_2 &&& (4 : Int32)) = (0 : Int32))))), .val (.ref b223), .val (.long (if ((9223372036854775807 : Int64) - LIM) < OFF then (9223372036854775807 : Int64) else (OFF + LIM))), .second] [(.int (1 : Int32))])) _
        exact retN X415 hx (t := .boolean) Bd.returns (by simp) (hb hby at_206) hr
      · show Q0 Z q0_0 q0_1 p0_2 w0_DEFAULTCAPACITY_EMPTY_ELEMENTDATA h0 n0 _ T415.heap _
        rw [e415]
        exact ⟨rfl, N416⟩
    · have pre422 : ∀ t, Steps p.tables e below (s₁.setTop (mkF m 60 #[.val (.long q0_0), .second, .val (.long q0_1), .second, .val (.int p0_2), .val (.long OFF), .second, .val (.int (p0_2 &&& (3 : Int32))), .val (.long ROOM), .second, .unset, .unset, .unset, .unset, .unset, .unset] [(.int (2 : Int32)), (.int (p0_2 &&& (3 : Int32)))])) t → Steps p.tables e below (s₁.setTop (entryFrame m #[(.long q0_0), (.long q0_1), (.int p0_2)] maxLocals)) t := fun t k => pre4 t (by
        show Steps p.tables e below (s₁.setTop (mkF m 21 #[.val (.long q0_0), .second, .val (.long q0_1), .second, .val (.int p0_2), .val (.long OFF), .second, .val (.int (p0_2 &&& (3 : Int32))), .val (.long ROOM), .second, .unset, .unset, .unset, .unset, .unset, .unset] [])) _
        refine XS.iload X0.here hx rfl (hb hby at_21) rfl ?_
        show Steps p.tables e below (s₁.setTop (mkF m 23 #[.val (.long q0_0), .second, .val (.long q0_1), .second, .val (.int p0_2), .val (.long OFF), .second, .val (.int (p0_2 &&& (3 : Int32))), .val (.long ROOM), .second, .unset, .unset, .unset, .unset, .unset, .unset] [(.int (p0_2 &&& (3 : Int32)))])) _
        refine XS.ifYes X0.here hx rfl (pc0 := 23) (pc' := 36) rfl (hb hby at_23) rfl ((if0 _ _).trans (feq hc7).2) (by decide) (by decide) ?_
        show Steps p.tables e below (s₁.setTop (mkF m 36 #[.val (.long q0_0), .second, .val (.long q0_1), .second, .val (.int p0_2), .val (.long OFF), .second, .val (.int (p0_2 &&& (3 : Int32))), .val (.long ROOM), .second, .unset, .unset, .unset, .unset, .unset, .unset] [])) _
        refine XS.iload X0.here hx rfl (hb hby at_36) rfl ?_
        show Steps p.tables e below (s₁.setTop (mkF m 38 #[.val (.long q0_0), .second, .val (.long q0_1), .second, .val (.int p0_2), .val (.long OFF), .second, .val (.int (p0_2 &&& (3 : Int32))), .val (.long ROOM), .second, .unset, .unset, .unset, .unset, .unset, .unset] [(.int (p0_2 &&& (3 : Int32)))])) _
        refine XS.iconst X0.here hx rfl (hb hby at_38) ?_
        show Steps p.tables e below (s₁.setTop (mkF m 39 #[.val (.long q0_0), .second, .val (.long q0_1), .second, .val (.int p0_2), .val (.long OFF), .second, .val (.int (p0_2 &&& (3 : Int32))), .val (.long ROOM), .second, .unset, .unset, .unset, .unset, .unset, .unset] [(.int (1 : Int32)), (.int (p0_2 &&& (3 : Int32)))])) _
        refine XS.icmpYes X0.here hx rfl (pc0 := 39) (pc' := 57) rfl (hb hby at_39) rfl (feq hc212).2 (by decide) (by decide) ?_
        show Steps p.tables e below (s₁.setTop (mkF m 57 #[.val (.long q0_0), .second, .val (.long q0_1), .second, .val (.int p0_2), .val (.long OFF), .second, .val (.int (p0_2 &&& (3 : Int32))), .val (.long ROOM), .second, .unset, .unset, .unset, .unset, .unset, .unset] [])) _
        refine XS.iload X0.here hx rfl (hb hby at_57) rfl ?_
        show Steps p.tables e below (s₁.setTop (mkF m 59 #[.val (.long q0_0), .second, .val (.long q0_1), .second, .val (.int p0_2), .val (.long OFF), .second, .val (.int (p0_2 &&& (3 : Int32))), .val (.long ROOM), .second, .unset, .unset, .unset, .unset, .unset, .unset] [(.int (p0_2 &&& (3 : Int32)))])) _
        refine XS.iconst X0.here hx rfl (hb hby at_59) ?_
        exact k)
      have pre423 : ∀ t, Steps p.tables e below (s₁.setTop (mkF m 108 #[.val (.long q0_0), .second, .val (.long q0_1), .second, .val (.int p0_2), .val (.long OFF), .second, .val (.int (p0_2 &&& (3 : Int32))), .val (.long ROOM), .second, .val (.long (if (p0_2 &&& (3 : Int32)) = (2 : Int32) then (9223372036854775807 : Int64) else (if ROOM < (9223372036854775807 : Int64) then (if ROOM < (9223372036854775806 : Int64) then ((ROOM + (1 : Int64)) + (q0_1 &&& (1 : Int64))) else ((ROOM + (1 : Int64)) + (0 : Int64))) else ROOM))), .second, .unset, .unset, .unset, .unset] [])) t → Steps p.tables e below (s₁.setTop (entryFrame m #[(.long q0_0), (.long q0_1), (.int p0_2)] maxLocals)) t := fun t k => pre422 t (by
        by_cases hc419 : (p0_2 &&& (3 : Int32)) = (2 : Int32)
        · show Steps p.tables e below (s₁.setTop (mkF m 60 #[.val (.long q0_0), .second, .val (.long q0_1), .second, .val (.int p0_2), .val (.long OFF), .second, .val (.int (p0_2 &&& (3 : Int32))), .val (.long ROOM), .second, .unset, .unset, .unset, .unset, .unset, .unset] [(.int (2 : Int32)), (.int (p0_2 &&& (3 : Int32)))])) _
          refine XS.icmpNo X0.here hx rfl (hb hby at_60) rfl (teq hc419).2 ?_
          show Steps p.tables e below (s₁.setTop (mkF m 63 #[.val (.long q0_0), .second, .val (.long q0_1), .second, .val (.int p0_2), .val (.long OFF), .second, .val (.int (p0_2 &&& (3 : Int32))), .val (.long ROOM), .second, .unset, .unset, .unset, .unset, .unset, .unset] [])) _
          refine X0.ldc2Long hx hown (mvT hZ (hVV 0 _ rfl)) (g := (mkF m 63 #[.val (.long q0_0), .second, .val (.long q0_1), .second, .val (.int p0_2), .val (.long OFF), .second, .val (.int (p0_2 &&& (3 : Int32))), .val (.long ROOM), .second, .unset, .unset, .unset, .unset, .unset, .unset] [])) rfl (hb hby at_63) _ ?_
          show Steps p.tables e below (s₁.setTop (mkF m 66 #[.val (.long q0_0), .second, .val (.long q0_1), .second, .val (.int p0_2), .val (.long OFF), .second, .val (.int (p0_2 &&& (3 : Int32))), .val (.long ROOM), .second, .unset, .unset, .unset, .unset, .unset, .unset] [(.long (9223372036854775807 : Int64))])) _
          refine XS.lstore X0.here hx rfl (hb hby at_66) rfl (l' := #[.val (.long q0_0), .second, .val (.long q0_1), .second, .val (.int p0_2), .val (.long OFF), .second, .val (.int (p0_2 &&& (3 : Int32))), .val (.long ROOM), .second, .val (.long (9223372036854775807 : Int64)), .second, .unset, .unset, .unset, .unset]) rfl ?_
          show Steps p.tables e below (s₁.setTop (mkF m 68 #[.val (.long q0_0), .second, .val (.long q0_1), .second, .val (.int p0_2), .val (.long OFF), .second, .val (.int (p0_2 &&& (3 : Int32))), .val (.long ROOM), .second, .val (.long (9223372036854775807 : Int64)), .second, .unset, .unset, .unset, .unset] [])) _
          refine XS.goto X0.here hx rfl (pc0 := 68) (pc' := 108) rfl (hb hby at_68) (by decide) (by decide) ?_
          have q424 : (if (p0_2 &&& (3 : Int32)) = (2 : Int32) then (9223372036854775807 : Int64) else (if ROOM < (9223372036854775807 : Int64) then (if ROOM < (9223372036854775806 : Int64) then ((ROOM + (1 : Int64)) + (q0_1 &&& (1 : Int64))) else ((ROOM + (1 : Int64)) + (0 : Int64))) else ROOM)) = (9223372036854775807 : Int64) := (if_pos hc419)
          exact castTop (g := (mkF m 108 #[.val (.long q0_0), .second, .val (.long q0_1), .second, .val (.int p0_2), .val (.long OFF), .second, .val (.int (p0_2 &&& (3 : Int32))), .val (.long ROOM), .second, .val (.long (9223372036854775807 : Int64)), .second, .unset, .unset, .unset, .unset] [])) (g' := (mkF m 108 #[.val (.long q0_0), .second, .val (.long q0_1), .second, .val (.int p0_2), .val (.long OFF), .second, .val (.int (p0_2 &&& (3 : Int32))), .val (.long ROOM), .second, .val (.long (if (p0_2 &&& (3 : Int32)) = (2 : Int32) then (9223372036854775807 : Int64) else (if ROOM < (9223372036854775807 : Int64) then (if ROOM < (9223372036854775806 : Int64) then ((ROOM + (1 : Int64)) + (q0_1 &&& (1 : Int64))) else ((ROOM + (1 : Int64)) + (0 : Int64))) else ROOM))), .second, .unset, .unset, .unset, .unset] [])) (by simp only [q424]) k
        · show Steps p.tables e below (s₁.setTop (mkF m 60 #[.val (.long q0_0), .second, .val (.long q0_1), .second, .val (.int p0_2), .val (.long OFF), .second, .val (.int (p0_2 &&& (3 : Int32))), .val (.long ROOM), .second, .unset, .unset, .unset, .unset, .unset, .unset] [(.int (2 : Int32)), (.int (p0_2 &&& (3 : Int32)))])) _
          refine XS.icmpYes X0.here hx rfl (pc0 := 60) (pc' := 71) rfl (hb hby at_60) rfl (feq hc419).2 (by decide) (by decide) ?_
          show Steps p.tables e below (s₁.setTop (mkF m 71 #[.val (.long q0_0), .second, .val (.long q0_1), .second, .val (.int p0_2), .val (.long OFF), .second, .val (.int (p0_2 &&& (3 : Int32))), .val (.long ROOM), .second, .unset, .unset, .unset, .unset, .unset, .unset] [])) _
          refine XS.lload X0.here hx rfl (hb hby at_71) rfl ?_
          show Steps p.tables e below (s₁.setTop (mkF m 73 #[.val (.long q0_0), .second, .val (.long q0_1), .second, .val (.int p0_2), .val (.long OFF), .second, .val (.int (p0_2 &&& (3 : Int32))), .val (.long ROOM), .second, .unset, .unset, .unset, .unset, .unset, .unset] [(.long ROOM)])) _
          refine X0.ldc2Long hx hown (mvT hZ (hVV 0 _ rfl)) (g := (mkF m 73 #[.val (.long q0_0), .second, .val (.long q0_1), .second, .val (.int p0_2), .val (.long OFF), .second, .val (.int (p0_2 &&& (3 : Int32))), .val (.long ROOM), .second, .unset, .unset, .unset, .unset, .unset, .unset] [(.long ROOM)])) rfl (hb hby at_73) _ ?_
          show Steps p.tables e below (s₁.setTop (mkF m 76 #[.val (.long q0_0), .second, .val (.long q0_1), .second, .val (.int p0_2), .val (.long OFF), .second, .val (.int (p0_2 &&& (3 : Int32))), .val (.long ROOM), .second, .unset, .unset, .unset, .unset, .unset, .unset] [(.long (9223372036854775807 : Int64)), (.long ROOM)])) _
          refine XS.lcmp X0.here hx rfl (hb hby at_76) rfl ?_
          by_cases hc420 : ROOM < (9223372036854775807 : Int64)
          · show Steps p.tables e below (s₁.setTop (mkF m 77 #[.val (.long q0_0), .second, .val (.long q0_1), .second, .val (.int p0_2), .val (.long OFF), .second, .val (.int (p0_2 &&& (3 : Int32))), .val (.long ROOM), .second, .unset, .unset, .unset, .unset, .unset, .unset] [(.int (lcmpW ROOM (9223372036854775807 : Int64)))])) _
            refine XS.ifNo X0.here hx rfl (hb hby at_77) rfl ((if0 _ _).trans (tlt ((lw_lt _ _).mpr hc420)).2.1) ?_
            show Steps p.tables e below (s₁.setTop (mkF m 80 #[.val (.long q0_0), .second, .val (.long q0_1), .second, .val (.int p0_2), .val (.long OFF), .second, .val (.int (p0_2 &&& (3 : Int32))), .val (.long ROOM), .second, .unset, .unset, .unset, .unset, .unset, .unset] [])) _
            refine XS.lload X0.here hx rfl (hb hby at_80) rfl ?_
            show Steps p.tables e below (s₁.setTop (mkF m 82 #[.val (.long q0_0), .second, .val (.long q0_1), .second, .val (.int p0_2), .val (.long OFF), .second, .val (.int (p0_2 &&& (3 : Int32))), .val (.long ROOM), .second, .unset, .unset, .unset, .unset, .unset, .unset] [(.long ROOM)])) _
            refine XS.lconst X0.here hx rfl (hb hby at_82) ?_
            show Steps p.tables e below (s₁.setTop (mkF m 83 #[.val (.long q0_0), .second, .val (.long q0_1), .second, .val (.int p0_2), .val (.long OFF), .second, .val (.int (p0_2 &&& (3 : Int32))), .val (.long ROOM), .second, .unset, .unset, .unset, .unset, .unset, .unset] [(.long (1 : Int64)), (.long ROOM)])) _
            refine XS.ladd X0.here hx rfl (hb hby at_83) rfl ?_
            show Steps p.tables e below (s₁.setTop (mkF m 84 #[.val (.long q0_0), .second, .val (.long q0_1), .second, .val (.int p0_2), .val (.long OFF), .second, .val (.int (p0_2 &&& (3 : Int32))), .val (.long ROOM), .second, .unset, .unset, .unset, .unset, .unset, .unset] [(.long (ROOM + (1 : Int64)))])) _
            refine XS.lload X0.here hx rfl (hb hby at_84) rfl ?_
            show Steps p.tables e below (s₁.setTop (mkF m 86 #[.val (.long q0_0), .second, .val (.long q0_1), .second, .val (.int p0_2), .val (.long OFF), .second, .val (.int (p0_2 &&& (3 : Int32))), .val (.long ROOM), .second, .unset, .unset, .unset, .unset, .unset, .unset] [(.long ROOM), (.long (ROOM + (1 : Int64)))])) _
            refine X0.ldc2Long hx hown (mvT hZ (hVV 58 _ rfl)) (g := (mkF m 86 #[.val (.long q0_0), .second, .val (.long q0_1), .second, .val (.int p0_2), .val (.long OFF), .second, .val (.int (p0_2 &&& (3 : Int32))), .val (.long ROOM), .second, .unset, .unset, .unset, .unset, .unset, .unset] [(.long ROOM), (.long (ROOM + (1 : Int64)))])) rfl (hb hby at_86) _ ?_
            show Steps p.tables e below (s₁.setTop (mkF m 89 #[.val (.long q0_0), .second, .val (.long q0_1), .second, .val (.int p0_2), .val (.long OFF), .second, .val (.int (p0_2 &&& (3 : Int32))), .val (.long ROOM), .second, .unset, .unset, .unset, .unset, .unset, .unset] [(.long (9223372036854775806 : Int64)), (.long ROOM), (.long (ROOM + (1 : Int64)))])) _
            refine XS.lcmp X0.here hx rfl (hb hby at_89) rfl ?_
            by_cases hc421 : ROOM < (9223372036854775806 : Int64)
            · show Steps p.tables e below (s₁.setTop (mkF m 90 #[.val (.long q0_0), .second, .val (.long q0_1), .second, .val (.int p0_2), .val (.long OFF), .second, .val (.int (p0_2 &&& (3 : Int32))), .val (.long ROOM), .second, .unset, .unset, .unset, .unset, .unset, .unset] [(.int (lcmpW ROOM (9223372036854775806 : Int64))), (.long (ROOM + (1 : Int64)))])) _
              refine XS.ifNo X0.here hx rfl (hb hby at_90) rfl ((if0 _ _).trans (tlt ((lw_lt _ _).mpr hc421)).2.1) ?_
              show Steps p.tables e below (s₁.setTop (mkF m 93 #[.val (.long q0_0), .second, .val (.long q0_1), .second, .val (.int p0_2), .val (.long OFF), .second, .val (.int (p0_2 &&& (3 : Int32))), .val (.long ROOM), .second, .unset, .unset, .unset, .unset, .unset, .unset] [(.long (ROOM + (1 : Int64)))])) _
              refine XS.lloadN X0.here hx rfl (hb hby at_93) rfl ?_
              show Steps p.tables e below (s₁.setTop (mkF m 94 #[.val (.long q0_0), .second, .val (.long q0_1), .second, .val (.int p0_2), .val (.long OFF), .second, .val (.int (p0_2 &&& (3 : Int32))), .val (.long ROOM), .second, .unset, .unset, .unset, .unset, .unset, .unset] [(.long q0_1), (.long (ROOM + (1 : Int64)))])) _
              refine XS.lconst X0.here hx rfl (hb hby at_94) ?_
              show Steps p.tables e below (s₁.setTop (mkF m 95 #[.val (.long q0_0), .second, .val (.long q0_1), .second, .val (.int p0_2), .val (.long OFF), .second, .val (.int (p0_2 &&& (3 : Int32))), .val (.long ROOM), .second, .unset, .unset, .unset, .unset, .unset, .unset] [(.long (1 : Int64)), (.long q0_1), (.long (ROOM + (1 : Int64)))])) _
              refine XS.land X0.here hx rfl (hb hby at_95) rfl ?_
              show Steps p.tables e below (s₁.setTop (mkF m 96 #[.val (.long q0_0), .second, .val (.long q0_1), .second, .val (.int p0_2), .val (.long OFF), .second, .val (.int (p0_2 &&& (3 : Int32))), .val (.long ROOM), .second, .unset, .unset, .unset, .unset, .unset, .unset] [(.long (q0_1 &&& (1 : Int64))), (.long (ROOM + (1 : Int64)))])) _
              refine XS.goto X0.here hx rfl (pc0 := 96) (pc' := 100) rfl (hb hby at_96) (by decide) (by decide) ?_
              show Steps p.tables e below (s₁.setTop (mkF m 100 #[.val (.long q0_0), .second, .val (.long q0_1), .second, .val (.int p0_2), .val (.long OFF), .second, .val (.int (p0_2 &&& (3 : Int32))), .val (.long ROOM), .second, .unset, .unset, .unset, .unset, .unset, .unset] [(.long (q0_1 &&& (1 : Int64))), (.long (ROOM + (1 : Int64)))])) _
              refine XS.ladd X0.here hx rfl (hb hby at_100) rfl ?_
              show Steps p.tables e below (s₁.setTop (mkF m 101 #[.val (.long q0_0), .second, .val (.long q0_1), .second, .val (.int p0_2), .val (.long OFF), .second, .val (.int (p0_2 &&& (3 : Int32))), .val (.long ROOM), .second, .unset, .unset, .unset, .unset, .unset, .unset] [(.long ((ROOM + (1 : Int64)) + (q0_1 &&& (1 : Int64))))])) _
              refine XS.goto X0.here hx rfl (pc0 := 101) (pc' := 106) rfl (hb hby at_101) (by decide) (by decide) ?_
              show Steps p.tables e below (s₁.setTop (mkF m 106 #[.val (.long q0_0), .second, .val (.long q0_1), .second, .val (.int p0_2), .val (.long OFF), .second, .val (.int (p0_2 &&& (3 : Int32))), .val (.long ROOM), .second, .unset, .unset, .unset, .unset, .unset, .unset] [(.long ((ROOM + (1 : Int64)) + (q0_1 &&& (1 : Int64))))])) _
              refine XS.lstore X0.here hx rfl (hb hby at_106) rfl (l' := #[.val (.long q0_0), .second, .val (.long q0_1), .second, .val (.int p0_2), .val (.long OFF), .second, .val (.int (p0_2 &&& (3 : Int32))), .val (.long ROOM), .second, .val (.long ((ROOM + (1 : Int64)) + (q0_1 &&& (1 : Int64)))), .second, .unset, .unset, .unset, .unset]) rfl ?_
              have q425 : (if (p0_2 &&& (3 : Int32)) = (2 : Int32) then (9223372036854775807 : Int64) else (if ROOM < (9223372036854775807 : Int64) then (if ROOM < (9223372036854775806 : Int64) then ((ROOM + (1 : Int64)) + (q0_1 &&& (1 : Int64))) else ((ROOM + (1 : Int64)) + (0 : Int64))) else ROOM)) = ((ROOM + (1 : Int64)) + (q0_1 &&& (1 : Int64))) := ((if_neg hc419).trans ((if_pos hc420).trans (if_pos hc421)))
              exact castTop (g := (mkF m 108 #[.val (.long q0_0), .second, .val (.long q0_1), .second, .val (.int p0_2), .val (.long OFF), .second, .val (.int (p0_2 &&& (3 : Int32))), .val (.long ROOM), .second, .val (.long ((ROOM + (1 : Int64)) + (q0_1 &&& (1 : Int64)))), .second, .unset, .unset, .unset, .unset] [])) (g' := (mkF m 108 #[.val (.long q0_0), .second, .val (.long q0_1), .second, .val (.int p0_2), .val (.long OFF), .second, .val (.int (p0_2 &&& (3 : Int32))), .val (.long ROOM), .second, .val (.long (if (p0_2 &&& (3 : Int32)) = (2 : Int32) then (9223372036854775807 : Int64) else (if ROOM < (9223372036854775807 : Int64) then (if ROOM < (9223372036854775806 : Int64) then ((ROOM + (1 : Int64)) + (q0_1 &&& (1 : Int64))) else ((ROOM + (1 : Int64)) + (0 : Int64))) else ROOM))), .second, .unset, .unset, .unset, .unset] [])) (by simp only [q425]) k
            · show Steps p.tables e below (s₁.setTop (mkF m 90 #[.val (.long q0_0), .second, .val (.long q0_1), .second, .val (.int p0_2), .val (.long OFF), .second, .val (.int (p0_2 &&& (3 : Int32))), .val (.long ROOM), .second, .unset, .unset, .unset, .unset, .unset, .unset] [(.int (lcmpW ROOM (9223372036854775806 : Int64))), (.long (ROOM + (1 : Int64)))])) _
              refine XS.ifYes X0.here hx rfl (pc0 := 90) (pc' := 99) rfl (hb hby at_90) rfl ((if0 _ _).trans (flt (fun q => hc421 ((lw_lt _ _).mp q))).2.1) (by decide) (by decide) ?_
              show Steps p.tables e below (s₁.setTop (mkF m 99 #[.val (.long q0_0), .second, .val (.long q0_1), .second, .val (.int p0_2), .val (.long OFF), .second, .val (.int (p0_2 &&& (3 : Int32))), .val (.long ROOM), .second, .unset, .unset, .unset, .unset, .unset, .unset] [(.long (ROOM + (1 : Int64)))])) _
              refine XS.lconst X0.here hx rfl (hb hby at_99) ?_
              show Steps p.tables e below (s₁.setTop (mkF m 100 #[.val (.long q0_0), .second, .val (.long q0_1), .second, .val (.int p0_2), .val (.long OFF), .second, .val (.int (p0_2 &&& (3 : Int32))), .val (.long ROOM), .second, .unset, .unset, .unset, .unset, .unset, .unset] [(.long (0 : Int64)), (.long (ROOM + (1 : Int64)))])) _
              refine XS.ladd X0.here hx rfl (hb hby at_100) rfl ?_
              show Steps p.tables e below (s₁.setTop (mkF m 101 #[.val (.long q0_0), .second, .val (.long q0_1), .second, .val (.int p0_2), .val (.long OFF), .second, .val (.int (p0_2 &&& (3 : Int32))), .val (.long ROOM), .second, .unset, .unset, .unset, .unset, .unset, .unset] [(.long ((ROOM + (1 : Int64)) + (0 : Int64)))])) _
              refine XS.goto X0.here hx rfl (pc0 := 101) (pc' := 106) rfl (hb hby at_101) (by decide) (by decide) ?_
              show Steps p.tables e below (s₁.setTop (mkF m 106 #[.val (.long q0_0), .second, .val (.long q0_1), .second, .val (.int p0_2), .val (.long OFF), .second, .val (.int (p0_2 &&& (3 : Int32))), .val (.long ROOM), .second, .unset, .unset, .unset, .unset, .unset, .unset] [(.long ((ROOM + (1 : Int64)) + (0 : Int64)))])) _
              refine XS.lstore X0.here hx rfl (hb hby at_106) rfl (l' := #[.val (.long q0_0), .second, .val (.long q0_1), .second, .val (.int p0_2), .val (.long OFF), .second, .val (.int (p0_2 &&& (3 : Int32))), .val (.long ROOM), .second, .val (.long ((ROOM + (1 : Int64)) + (0 : Int64))), .second, .unset, .unset, .unset, .unset]) rfl ?_
              have q426 : (if (p0_2 &&& (3 : Int32)) = (2 : Int32) then (9223372036854775807 : Int64) else (if ROOM < (9223372036854775807 : Int64) then (if ROOM < (9223372036854775806 : Int64) then ((ROOM + (1 : Int64)) + (q0_1 &&& (1 : Int64))) else ((ROOM + (1 : Int64)) + (0 : Int64))) else ROOM)) = ((ROOM + (1 : Int64)) + (0 : Int64)) := ((if_neg hc419).trans ((if_pos hc420).trans (if_neg hc421)))
              exact castTop (g := (mkF m 108 #[.val (.long q0_0), .second, .val (.long q0_1), .second, .val (.int p0_2), .val (.long OFF), .second, .val (.int (p0_2 &&& (3 : Int32))), .val (.long ROOM), .second, .val (.long ((ROOM + (1 : Int64)) + (0 : Int64))), .second, .unset, .unset, .unset, .unset] [])) (g' := (mkF m 108 #[.val (.long q0_0), .second, .val (.long q0_1), .second, .val (.int p0_2), .val (.long OFF), .second, .val (.int (p0_2 &&& (3 : Int32))), .val (.long ROOM), .second, .val (.long (if (p0_2 &&& (3 : Int32)) = (2 : Int32) then (9223372036854775807 : Int64) else (if ROOM < (9223372036854775807 : Int64) then (if ROOM < (9223372036854775806 : Int64) then ((ROOM + (1 : Int64)) + (q0_1 &&& (1 : Int64))) else ((ROOM + (1 : Int64)) + (0 : Int64))) else ROOM))), .second, .unset, .unset, .unset, .unset] [])) (by simp only [q426]) k
          · show Steps p.tables e below (s₁.setTop (mkF m 77 #[.val (.long q0_0), .second, .val (.long q0_1), .second, .val (.int p0_2), .val (.long OFF), .second, .val (.int (p0_2 &&& (3 : Int32))), .val (.long ROOM), .second, .unset, .unset, .unset, .unset, .unset, .unset] [(.int (lcmpW ROOM (9223372036854775807 : Int64)))])) _
            refine XS.ifYes X0.here hx rfl (pc0 := 77) (pc' := 104) rfl (hb hby at_77) rfl ((if0 _ _).trans (flt (fun q => hc420 ((lw_lt _ _).mp q))).2.1) (by decide) (by decide) ?_
            show Steps p.tables e below (s₁.setTop (mkF m 104 #[.val (.long q0_0), .second, .val (.long q0_1), .second, .val (.int p0_2), .val (.long OFF), .second, .val (.int (p0_2 &&& (3 : Int32))), .val (.long ROOM), .second, .unset, .unset, .unset, .unset, .unset, .unset] [])) _
            refine XS.lload X0.here hx rfl (hb hby at_104) rfl ?_
            show Steps p.tables e below (s₁.setTop (mkF m 106 #[.val (.long q0_0), .second, .val (.long q0_1), .second, .val (.int p0_2), .val (.long OFF), .second, .val (.int (p0_2 &&& (3 : Int32))), .val (.long ROOM), .second, .unset, .unset, .unset, .unset, .unset, .unset] [(.long ROOM)])) _
            refine XS.lstore X0.here hx rfl (hb hby at_106) rfl (l' := #[.val (.long q0_0), .second, .val (.long q0_1), .second, .val (.int p0_2), .val (.long OFF), .second, .val (.int (p0_2 &&& (3 : Int32))), .val (.long ROOM), .second, .val (.long ROOM), .second, .unset, .unset, .unset, .unset]) rfl ?_
            have q427 : (if (p0_2 &&& (3 : Int32)) = (2 : Int32) then (9223372036854775807 : Int64) else (if ROOM < (9223372036854775807 : Int64) then (if ROOM < (9223372036854775806 : Int64) then ((ROOM + (1 : Int64)) + (q0_1 &&& (1 : Int64))) else ((ROOM + (1 : Int64)) + (0 : Int64))) else ROOM)) = ROOM := ((if_neg hc419).trans (if_neg hc420))
            exact castTop (g := (mkF m 108 #[.val (.long q0_0), .second, .val (.long q0_1), .second, .val (.int p0_2), .val (.long OFF), .second, .val (.int (p0_2 &&& (3 : Int32))), .val (.long ROOM), .second, .val (.long ROOM), .second, .unset, .unset, .unset, .unset] [])) (g' := (mkF m 108 #[.val (.long q0_0), .second, .val (.long q0_1), .second, .val (.int p0_2), .val (.long OFF), .second, .val (.int (p0_2 &&& (3 : Int32))), .val (.long ROOM), .second, .val (.long (if (p0_2 &&& (3 : Int32)) = (2 : Int32) then (9223372036854775807 : Int64) else (if ROOM < (9223372036854775807 : Int64) then (if ROOM < (9223372036854775806 : Int64) then ((ROOM + (1 : Int64)) + (q0_1 &&& (1 : Int64))) else ((ROOM + (1 : Int64)) + (0 : Int64))) else ROOM))), .second, .unset, .unset, .unset, .unset] [])) (by simp only [q427]) k)
      obtain ⟨LIM, hLIM⟩ : ∃ z : Int64, z = (if (p0_2 &&& (3 : Int32)) = (2 : Int32) then (9223372036854775807 : Int64) else (if ROOM < (9223372036854775807 : Int64) then (if ROOM < (9223372036854775806 : Int64) then ((ROOM + (1 : Int64)) + (q0_1 &&& (1 : Int64))) else ((ROOM + (1 : Int64)) + (0 : Int64))) else ROOM)) := ⟨_, rfl⟩
      have pre428 : ∀ t, Steps p.tables e below (s₁.setTop (mkF m 108 #[.val (.long q0_0), .second, .val (.long q0_1), .second, .val (.int p0_2), .val (.long OFF), .second, .val (.int (p0_2 &&& (3 : Int32))), .val (.long ROOM), .second, .val (.long LIM), .second, .unset, .unset, .unset, .unset] [])) t → Steps p.tables e below (s₁.setTop (entryFrame m #[(.long q0_0), (.long q0_1), (.int p0_2)] maxLocals)) t := fun t k => pre423 t (castTop (by rw [hLIM]) k)
      have hLIM0 : 0 ≤ LIM.toInt := by
        rw [hLIM]
        split
        · decide
        · exact own_l3 OFF ROOM _ hOFF0 hROOM
      have pre430 : ∀ t, Steps p.tables e below (s₁.setTop (mkF m 112 #[.val (.long q0_0), .second, .val (.long q0_1), .second, .val (.int p0_2), .val (.long OFF), .second, .val (.int (p0_2 &&& (3 : Int32))), .val (.long ROOM), .second, .val (.long LIM), .second, .unset, .unset, .unset, .unset] [(.int (p0_2 &&& (4 : Int32)))])) t → Steps p.tables e below (s₁.setTop (entryFrame m #[(.long q0_0), (.long q0_1), (.int p0_2)] maxLocals)) t := fun t k => pre428 t (by
        show Steps p.tables e below (s₁.setTop (mkF m 108 #[.val (.long q0_0), .second, .val (.long q0_1), .second, .val (.int p0_2), .val (.long OFF), .second, .val (.int (p0_2 &&& (3 : Int32))), .val (.long ROOM), .second, .val (.long LIM), .second, .unset, .unset, .unset, .unset] [])) _
        refine XS.iload X0.here hx rfl (hb hby at_108) rfl ?_
        show Steps p.tables e below (s₁.setTop (mkF m 110 #[.val (.long q0_0), .second, .val (.long q0_1), .second, .val (.int p0_2), .val (.long OFF), .second, .val (.int (p0_2 &&& (3 : Int32))), .val (.long ROOM), .second, .val (.long LIM), .second, .unset, .unset, .unset, .unset] [(.int p0_2)])) _
        refine XS.iconst X0.here hx rfl (hb hby at_110) ?_
        show Steps p.tables e below (s₁.setTop (mkF m 111 #[.val (.long q0_0), .second, .val (.long q0_1), .second, .val (.int p0_2), .val (.long OFF), .second, .val (.int (p0_2 &&& (3 : Int32))), .val (.long ROOM), .second, .val (.long LIM), .second, .unset, .unset, .unset, .unset] [(.int (4 : Int32)), (.int p0_2)])) _
        refine XS.iand X0.here hx rfl (hb hby at_111) rfl ?_
        exact k)
      have pre431 : ∀ t, Steps p.tables e below (s₁.setTop (mkF m 120 #[.val (.long q0_0), .second, .val (.long q0_1), .second, .val (.int p0_2), .val (.long OFF), .second, .val (.int (p0_2 &&& (3 : Int32))), .val (.long ROOM), .second, .val (.long LIM), .second, .unset, .unset, .unset, .unset] [(.int (bI (¬ ((p0_2 &&& (4 : Int32)) = (0 : Int32)))))])) t → Steps p.tables e below (s₁.setTop (entryFrame m #[(.long q0_0), (.long q0_1), (.int p0_2)] maxLocals)) t := fun t k => pre430 t (by
        by_cases hc429 : (p0_2 &&& (4 : Int32)) = (0 : Int32)
        · show Steps p.tables e below (s₁.setTop (mkF m 112 #[.val (.long q0_0), .second, .val (.long q0_1), .second, .val (.int p0_2), .val (.long OFF), .second, .val (.int (p0_2 &&& (3 : Int32))), .val (.long ROOM), .second, .val (.long LIM), .second, .unset, .unset, .unset, .unset] [(.int (p0_2 &&& (4 : Int32)))])) _
          refine XS.ifYes X0.here hx rfl (pc0 := 112) (pc' := 119) rfl (hb hby at_112) rfl ((if0 _ _).trans (teq hc429).1) (by decide) (by decide) ?_
          show Steps p.tables e below (s₁.setTop (mkF m 119 #[.val (.long q0_0), .second, .val (.long q0_1), .second, .val (.int p0_2), .val (.long OFF), .second, .val (.int (p0_2 &&& (3 : Int32))), .val (.long ROOM), .second, .val (.long LIM), .second, .unset, .unset, .unset, .unset] [])) _
          refine XS.iconst X0.here hx rfl (hb hby at_119) ?_
          have q432 : (bI (¬ ((p0_2 &&& (4 : Int32)) = (0 : Int32)))) = (0 : Int32) := (bI_f (fun q => q hc429))
          exact castTop (g := (mkF m 120 #[.val (.long q0_0), .second, .val (.long q0_1), .second, .val (.int p0_2), .val (.long OFF), .second, .val (.int (p0_2 &&& (3 : Int32))), .val (.long ROOM), .second, .val (.long LIM), .second, .unset, .unset, .unset, .unset] [(.int (0 : Int32))])) (g' := (mkF m 120 #[.val (.long q0_0), .second, .val (.long q0_1), .second, .val (.int p0_2), .val (.long OFF), .second, .val (.int (p0_2 &&& (3 : Int32))), .val (.long ROOM), .second, .val (.long LIM), .second, .unset, .unset, .unset, .unset] [(.int (bI (¬ ((p0_2 &&& (4 : Int32)) = (0 : Int32)))))])) (by simp only [q432]) k
        · show Steps p.tables e below (s₁.setTop (mkF m 112 #[.val (.long q0_0), .second, .val (.long q0_1), .second, .val (.int p0_2), .val (.long OFF), .second, .val (.int (p0_2 &&& (3 : Int32))), .val (.long ROOM), .second, .val (.long LIM), .second, .unset, .unset, .unset, .unset] [(.int (p0_2 &&& (4 : Int32)))])) _
          refine XS.ifNo X0.here hx rfl (hb hby at_112) rfl ((if0 _ _).trans (feq hc429).1) ?_
          show Steps p.tables e below (s₁.setTop (mkF m 115 #[.val (.long q0_0), .second, .val (.long q0_1), .second, .val (.int p0_2), .val (.long OFF), .second, .val (.int (p0_2 &&& (3 : Int32))), .val (.long ROOM), .second, .val (.long LIM), .second, .unset, .unset, .unset, .unset] [])) _
          refine XS.iconst X0.here hx rfl (hb hby at_115) ?_
          show Steps p.tables e below (s₁.setTop (mkF m 116 #[.val (.long q0_0), .second, .val (.long q0_1), .second, .val (.int p0_2), .val (.long OFF), .second, .val (.int (p0_2 &&& (3 : Int32))), .val (.long ROOM), .second, .val (.long LIM), .second, .unset, .unset, .unset, .unset] [(.int (1 : Int32))])) _
          refine XS.goto X0.here hx rfl (pc0 := 116) (pc' := 120) rfl (hb hby at_116) (by decide) (by decide) ?_
          have q433 : (bI (¬ ((p0_2 &&& (4 : Int32)) = (0 : Int32)))) = (1 : Int32) := (bI_t hc429)
          exact castTop (g := (mkF m 120 #[.val (.long q0_0), .second, .val (.long q0_1), .second, .val (.int p0_2), .val (.long OFF), .second, .val (.int (p0_2 &&& (3 : Int32))), .val (.long ROOM), .second, .val (.long LIM), .second, .unset, .unset, .unset, .unset] [(.int (1 : Int32))])) (g' := (mkF m 120 #[.val (.long q0_0), .second, .val (.long q0_1), .second, .val (.int p0_2), .val (.long OFF), .second, .val (.int (p0_2 &&& (3 : Int32))), .val (.long ROOM), .second, .val (.long LIM), .second, .unset, .unset, .unset, .unset] [(.int (bI (¬ ((p0_2 &&& (4 : Int32)) = (0 : Int32)))))])) (by simp only [q433]) k)
      obtain ⟨T434, h434, X434, e434, E434, A434, D434, -, st434⟩ := newO X0 hx hZ hown (hVV 1 _ rfl) (hVV 2 _ rfl) (hVV 3 _ rfl) e0 (g := (mkF m 122 #[.val (.long q0_0), .second, .val (.long q0_1), .second, .val (.int p0_2), .val (.long OFF), .second, .val (.int (p0_2 &&& (3 : Int32))), .val (.long ROOM), .second, .val (.long LIM), .second, .val (.int (bI (¬ ((p0_2 &&& (4 : Int32)) = (0 : Int32))))), .unset, .unset, .unset] [])) rfl (hb hby at_122) (by decide) (by decide)
      obtain ⟨b434, g434⟩ : ∃ z, z = h0.size := ⟨_, rfl⟩
      rw [← g434] at A434 D434 st434
      have gz434 : n0 ≤ b434 := Nat.le_trans Z0 (Nat.le_of_eq g434.symm)
      have pre435 : ∀ t, Steps p.tables e below (T434.setTop (mkF m 125 #[.val (.long q0_0), .second, .val (.long q0_1), .second, .val (.int p0_2), .val (.long OFF), .second, .val (.int (p0_2 &&& (3 : Int32))), .val (.long ROOM), .second, .val (.long LIM), .second, .val (.int (bI (¬ ((p0_2 &&& (4 : Int32)) = (0 : Int32))))), .unset, .unset, .unset] [(.ref b434)])) t → Steps p.tables e below (s₁.setTop (entryFrame m #[(.long q0_0), (.long q0_1), (.int p0_2)] maxLocals)) t := fun t k => pre431 t (by
        show Steps p.tables e below (s₁.setTop (mkF m 120 #[.val (.long q0_0), .second, .val (.long q0_1), .second, .val (.int p0_2), .val (.long OFF), .second, .val (.int (p0_2 &&& (3 : Int32))), .val (.long ROOM), .second, .val (.long LIM), .second, .unset, .unset, .unset, .unset] [(.int (bI (¬ ((p0_2 &&& (4 : Int32)) = (0 : Int32)))))])) _
        refine XS.istore X0.here hx rfl (hb hby at_120) rfl (l' := #[.val (.long q0_0), .second, .val (.long q0_1), .second, .val (.int p0_2), .val (.long OFF), .second, .val (.int (p0_2 &&& (3 : Int32))), .val (.long ROOM), .second, .val (.long LIM), .second, .val (.int (bI (¬ ((p0_2 &&& (4 : Int32)) = (0 : Int32))))), .unset, .unset, .unset]) rfl ?_
        show Steps p.tables e below (s₁.setTop (mkF m 122 #[.val (.long q0_0), .second, .val (.long q0_1), .second, .val (.int p0_2), .val (.long OFF), .second, .val (.int (p0_2 &&& (3 : Int32))), .val (.long ROOM), .second, .val (.long LIM), .second, .val (.int (bI (¬ ((p0_2 &&& (4 : Int32)) = (0 : Int32))))), .unset, .unset, .unset] [])) _
        refine st434 _ ?_
        exact k)
      have z436 := Nat.le_trans Z0 E434.1
      have o437 := O0.ext E434
      have f438 : Fld Z h434 b434 "com/example/tripleshard/tripleshard/sparql/Query" "projection" "Ljava/util/List;" .null := D434 (Or.inr (hVV 40 _ rfl)) (ty := (.object "java/util/List")) (by decide)
      have f439 : Fld Z h434 b434 "com/example/tripleshard/tripleshard/sparql/Query" "patterns" "Ljava/util/List;" .null := D434 (Or.inr (hVV 42 _ rfl)) (ty := (.object "java/util/List")) (by decide)
      have f440 : Fld Z h434 b434 "com/example/tripleshard/tripleshard/sparql/Query" "filters" "Ljava/util/List;" .null := D434 (Or.inr (hVV 44 _ rfl)) (ty := (.object "java/util/List")) (by decide)
      have f441 : Fld Z h434 b434 "com/example/tripleshard/tripleshard/sparql/Query" "distinct" "Z" (.int (0 : Int32)) := D434 (Or.inr (hVV 46 _ rfl)) (ty := .boolean) (by decide)
      have f442 : Fld Z h434 b434 "com/example/tripleshard/tripleshard/sparql/Query" "orderBy" "Ljava/util/List;" .null := D434 (Or.inr (hVV 48 _ rfl)) (ty := (.object "java/util/List")) (by decide)
      have f443 : Fld Z h434 b434 "com/example/tripleshard/tripleshard/sparql/Query" "offset" "J" (.long (0 : Int64)) := D434 (Or.inr (hVV 50 _ rfl)) (ty := .long) (by decide)
      have f444 : Fld Z h434 b434 "com/example/tripleshard/tripleshard/sparql/Query" "limit" "J" (.long (0 : Int64)) := D434 (Or.inr (hVV 52 _ rfl)) (ty := .long) (by decide)
      obtain ⟨T445, h445, X445, e445, E445, A445, D445, -, st445⟩ := newO X434 hx hZ hown (hVV 4 _ rfl) (hVV 5 _ rfl) (hVV 6 _ rfl) e434 (g := (mkF m 126 #[.val (.long q0_0), .second, .val (.long q0_1), .second, .val (.int p0_2), .val (.long OFF), .second, .val (.int (p0_2 &&& (3 : Int32))), .val (.long ROOM), .second, .val (.long LIM), .second, .val (.int (bI (¬ ((p0_2 &&& (4 : Int32)) = (0 : Int32))))), .unset, .unset, .unset] [(.ref b434), (.ref b434)])) rfl (hb hby at_126) (by decide) (by decide)
      obtain ⟨b445, g445⟩ : ∃ z, z = h434.size := ⟨_, rfl⟩
      rw [← g445] at A445 D445 st445
      have gz445 : n0 ≤ b445 := Nat.le_trans z436 (Nat.le_of_eq g445.symm)
      have ne446 : b434 ≠ b445 := Nat.ne_of_lt (Nat.lt_of_lt_of_le A434.lt (Nat.le_of_eq g445.symm))
      have pre447 : ∀ t, Steps p.tables e below (T445.setTop (mkF m 129 #[.val (.long q0_0), .second, .val (.long q0_1), .second, .val (.int p0_2), .val (.long OFF), .second, .val (.int (p0_2 &&& (3 : Int32))), .val (.long ROOM), .second, .val (.long LIM), .second, .val (.int (bI (¬ ((p0_2 &&& (4 : Int32)) = (0 : Int32))))), .unset, .unset, .unset] [(.ref b445), (.ref b434), (.ref b434)])) t → Steps p.tables e below (s₁.setTop (entryFrame m #[(.long q0_0), (.long q0_1), (.int p0_2)] maxLocals)) t := fun t k => pre435 t (by
        show Steps p.tables e below (T434.setTop (mkF m 125 #[.val (.long q0_0), .second, .val (.long q0_1), .second, .val (.int p0_2), .val (.long OFF), .second, .val (.int (p0_2 &&& (3 : Int32))), .val (.long ROOM), .second, .val (.long LIM), .second, .val (.int (bI (¬ ((p0_2 &&& (4 : Int32)) = (0 : Int32))))), .unset, .unset, .unset] [(.ref b434)])) _
        refine XS.dup X434.here hx rfl (hb hby at_125) rfl rfl ?_
        show Steps p.tables e below (T434.setTop (mkF m 126 #[.val (.long q0_0), .second, .val (.long q0_1), .second, .val (.int p0_2), .val (.long OFF), .second, .val (.int (p0_2 &&& (3 : Int32))), .val (.long ROOM), .second, .val (.long LIM), .second, .val (.int (bI (¬ ((p0_2 &&& (4 : Int32)) = (0 : Int32))))), .unset, .unset, .unset] [(.ref b434), (.ref b434)])) _
        refine st445 _ ?_
        exact k)
      have f448 := A434.ext E445
      have f449 := f438.ext E445
      have f450 := f439.ext E445
      have f451 := f440.ext E445
      have f452 := f441.ext E445
      have f453 := f442.ext E445
      have f454 := f443.ext E445
      have f455 := f444.ext E445
      have z456 := Nat.le_trans z436 E445.1
      have o457 := o437.ext E445
      have f458 : Fld Z h445 b445 "java/util/AbstractList" "modCount" "I" (.int (0 : Int32)) := D445 (Or.inl (hVV 26 _ rfl)) (ty := .int) (by decide)
      have f459 : Fld Z h445 b445 "java/util/ArrayList" "elementData" "[Ljava/lang/Object;" .null := D445 (Or.inl (hVV 29 _ rfl)) (ty := (.array (.object "java/lang/Object"))) (by decide)
      obtain ⟨_, _, ⟨T460, L460, k460, n460⟩, -, X460, ⟨Lc460, hQ460, l460, y460, z460⟩, st460⟩ := X445.specialBack hx (y := (⟨"java/util/ArrayList", "<init>", "()V"⟩ : MethodName)) rfl hown (mvT hZ (hVV 7 _ rfl)) (mvT hZ (hVV 8 _ rfl)) (mvT hZ (hVV 9 _ rfl)) (by decide) (backOf (W := 3) (rm1 l Z a0 hw [] b445 (0 : Int32) .null w0_DEFAULTCAPACITY_EMPTY_ELEMENTDATA h445 n0 z456 o457 A445 f458 f459 gz445 S_DEFAULTCAPACITY_EMPTY_ELEMENTDATA) hZ (hVV 9 _ rfl) (hVV 6 _ rfl) (by decide) (by decide)) (g := (mkF m 130 #[.val (.long q0_0), .second, .val (.long q0_1), .second, .val (.int p0_2), .val (.long OFF), .second, .val (.int (p0_2 &&& (3 : Int32))), .val (.long ROOM), .second, .val (.long LIM), .second, .val (.int (bI (¬ ((p0_2 &&& (4 : Int32)) = (0 : Int32))))), .unset, .unset, .unset] [(.ref b445), (.ref b445), (.ref b434), (.ref b434)])) rfl (by rw [hml]; rfl) (Steps.refl _) (a := b445) (argsL := []) (rest := [(.ref b445), (.ref b434), (.ref b434)]) (lenOf pd_0 rfl) rfl (by show 2 * 0 + _ ≤ _; exact Nat.le_of_eq rfl) (hb hby at_130) (fun _ _ => ⟨rfl, e445, (by decide : 2 + 0 ≤ _), (by decide : 10 + 0 ≤ _)⟩)
      dsimp only [Pt.U, Pt.locs, Pt.cells, Pt.slots] at X460 l460 y460 z460 st460 hQ460
      subst l460 y460 z460
      obtain ⟨rfl, N460q, K460, r460_0, r460_1, r460_2⟩ := hQ460
      have N461 := Fr.app N0 N460q
      have pre462 : ∀ t, Steps p.tables e below (T460.setTop (mkF m 133 #[.val (.long q0_0), .second, .val (.long q0_1), .second, .val (.int p0_2), .val (.long OFF), .second, .val (.int (p0_2 &&& (3 : Int32))), .val (.long ROOM), .second, .val (.long LIM), .second, .val (.int (bI (¬ ((p0_2 &&& (4 : Int32)) = (0 : Int32))))), .unset, .unset, .unset] [(.ref b445), (.ref b434), (.ref b434)])) t → Steps p.tables e below (s₁.setTop (entryFrame m #[(.long q0_0), (.long q0_1), (.int p0_2)] maxLocals)) t := fun t k => pre447 t (by
        show Steps p.tables e below (T445.setTop (mkF m 129 #[.val (.long q0_0), .second, .val (.long q0_1), .second, .val (.int p0_2), .val (.long OFF), .second, .val (.int (p0_2 &&& (3 : Int32))), .val (.long ROOM), .second, .val (.long LIM), .second, .val (.int (bI (¬ ((p0_2 &&& (4 : Int32)) = (0 : Int32))))), .unset, .unset, .unset] [(.ref b445), (.ref b434), (.ref b434)])) _
        refine XS.dup X445.here hx rfl (hb hby at_129) rfl rfl ?_
        show Steps p.tables e below (T445.setTop (mkF m 130 #[.val (.long q0_0), .second, .val (.long q0_1), .second, .val (.int p0_2), .val (.long OFF), .second, .val (.int (p0_2 &&& (3 : Int32))), .val (.long ROOM), .second, .val (.long LIM), .second, .val (.int (bI (¬ ((p0_2 &&& (4 : Int32)) = (0 : Int32))))), .unset, .unset, .unset] [(.ref b445), (.ref b445), (.ref b434), (.ref b434)])) _
        refine st460.trans ?_
        exact k)
      have f463 := f448.keep K460
      have f464 := f449.keep K460 (ninS ne446 nin0)
      have f465 := f450.keep K460 (ninS ne446 nin0)
      have f466 := f451.keep K460 (ninS ne446 nin0)
      have f467 := f452.keep K460 (ninS ne446 nin0)
      have f468 := f453.keep K460 (ninS ne446 nin0)
      have f469 := f454.keep K460 (ninS ne446 nin0)
      have f470 := f455.keep K460 (ninS ne446 nin0)
      have f471 := A445.keep K460
      have z472 := Nat.le_trans z456 K460.1
      have o473 := o457.keep K460 (allS gz445 all0)
      obtain ⟨T474, h474, X474, e474, E474, A474, D474, -, st474⟩ := newO X460 hx hZ hown (hVV 4 _ rfl) (hVV 5 _ rfl) (hVV 6 _ rfl) rfl (g := (mkF m 133 #[.val (.long q0_0), .second, .val (.long q0_1), .second, .val (.int p0_2), .val (.long OFF), .second, .val (.int (p0_2 &&& (3 : Int32))), .val (.long ROOM), .second, .val (.long LIM), .second, .val (.int (bI (¬ ((p0_2 &&& (4 : Int32)) = (0 : Int32))))), .unset, .unset, .unset] [(.ref b445), (.ref b434), (.ref b434)])) rfl (hb hby at_133) (by decide) (by decide)
      obtain ⟨b474, g474⟩ : ∃ z, z = T460.heap.size := ⟨_, rfl⟩
      rw [← g474] at A474 D474 st474
      have gz474 : n0 ≤ b474 := Nat.le_trans z472 (Nat.le_of_eq g474.symm)
      have ne475 : b434 ≠ b474 := Nat.ne_of_lt (Nat.lt_of_lt_of_le f463.lt (Nat.le_of_eq g474.symm))
      have ne476 : b445 ≠ b474 := Nat.ne_of_lt (Nat.lt_of_lt_of_le r460_0.lt (Nat.le_of_eq g474.symm))
      have pre477 : ∀ t, Steps p.tables e below (T474.setTop (mkF m 136 #[.val (.long q0_0), .second, .val (.long q0_1), .second, .val (.int p0_2), .val (.long OFF), .second, .val (.int (p0_2 &&& (3 : Int32))), .val (.long ROOM), .second, .val (.long LIM), .second, .val (.int (bI (¬ ((p0_2 &&& (4 : Int32)) = (0 : Int32))))), .unset, .unset, .unset] [(.ref b474), (.ref b445), (.ref b434), (.ref b434)])) t → Steps p.tables e below (s₁.setTop (entryFrame m #[(.long q0_0), (.long q0_1), (.int p0_2)] maxLocals)) t := fun t k => pre462 t (by
        show Steps p.tables e below (T460.setTop (mkF m 133 #[.val (.long q0_0), .second, .val (.long q0_1), .second, .val (.int p0_2), .val (.long OFF), .second, .val (.int (p0_2 &&& (3 : Int32))), .val (.long ROOM), .second, .val (.long LIM), .second, .val (.int (bI (¬ ((p0_2 &&& (4 : Int32)) = (0 : Int32))))), .unset, .unset, .unset] [(.ref b445), (.ref b434), (.ref b434)])) _
        refine st474 _ ?_
        exact k)
      have f478 := f463.ext E474
      have f479 := f464.ext E474
      have f480 := f465.ext E474
      have f481 := f466.ext E474
      have f482 := f467.ext E474
      have f483 := f468.ext E474
      have f484 := f469.ext E474
      have f485 := f470.ext E474
      have f486 := r460_0.ext E474
      have f487 := r460_1.ext E474
      have f488 := r460_2.ext E474
      have z489 := Nat.le_trans z472 E474.1
      have o490 := o473.ext E474
      have f491 : Fld Z h474 b474 "java/util/AbstractList" "modCount" "I" (.int (0 : Int32)) := D474 (Or.inl (hVV 26 _ rfl)) (ty := .int) (by decide)
      have f492 : Fld Z h474 b474 "java/util/ArrayList" "elementData" "[Ljava/lang/Object;" .null := D474 (Or.inl (hVV 29 _ rfl)) (ty := (.array (.object "java/lang/Object"))) (by decide)
      obtain ⟨_, _, ⟨T493, L493, k493, n493⟩, -, X493, ⟨Lc493, hQ493, l493, y493, z493⟩, st493⟩ := X474.specialBack hx (y := (⟨"java/util/ArrayList", "<init>", "()V"⟩ : MethodName)) rfl hown (mvT hZ (hVV 7 _ rfl)) (mvT hZ (hVV 8 _ rfl)) (mvT hZ (hVV 9 _ rfl)) (by decide) (backOf (W := 4) (rm1 l Z a0 hw [] b474 (0 : Int32) .null w0_DEFAULTCAPACITY_EMPTY_ELEMENTDATA h474 n0 z489 o490 A474 f491 f492 gz474 S_DEFAULTCAPACITY_EMPTY_ELEMENTDATA) hZ (hVV 9 _ rfl) (hVV 6 _ rfl) (by decide) (by decide)) (g := (mkF m 137 #[.val (.long q0_0), .second, .val (.long q0_1), .second, .val (.int p0_2), .val (.long OFF), .second, .val (.int (p0_2 &&& (3 : Int32))), .val (.long ROOM), .second, .val (.long LIM), .second, .val (.int (bI (¬ ((p0_2 &&& (4 : Int32)) = (0 : Int32))))), .unset, .unset, .unset] [(.ref b474), (.ref b474), (.ref b445), (.ref b434), (.ref b434)])) rfl (by rw [hml]; rfl) (Steps.refl _) (a := b474) (argsL := []) (rest := [(.ref b474), (.ref b445), (.ref b434), (.ref b434)]) (lenOf pd_0 rfl) rfl (by show 2 * 0 + _ ≤ _; exact Nat.le_of_eq rfl) (hb hby at_137) (fun _ _ => ⟨rfl, e474, (by decide : 3 + 0 ≤ _), (by decide : 13 + 0 ≤ _)⟩)
      dsimp only [Pt.U, Pt.locs, Pt.cells, Pt.slots] at X493 l493 y493 z493 st493 hQ493
      subst l493 y493 z493
      obtain ⟨rfl, N493q, K493, r493_0, r493_1, r493_2⟩ := hQ493
      have N494 := Fr.app N461 N493q
      have pre495 : ∀ t, Steps p.tables e below (T493.setTop (mkF m 140 #[.val (.long q0_0), .second, .val (.long q0_1), .second, .val (.int p0_2), .val (.long OFF), .second, .val (.int (p0_2 &&& (3 : Int32))), .val (.long ROOM), .second, .val (.long LIM), .second, .val (.int (bI (¬ ((p0_2 &&& (4 : Int32)) = (0 : Int32))))), .unset, .unset, .unset] [(.ref b474), (.ref b445), (.ref b434), (.ref b434)])) t → Steps p.tables e below (s₁.setTop (entryFrame m #[(.long q0_0), (.long q0_1), (.int p0_2)] maxLocals)) t := fun t k => pre477 t (by
        show Steps p.tables e below (T474.setTop (mkF m 136 #[.val (.long q0_0), .second, .val (.long q0_1), .second, .val (.int p0_2), .val (.long OFF), .second, .val (.int (p0_2 &&& (3 : Int32))), .val (.long ROOM), .second, .val (.long LIM), .second, .val (.int (bI (¬ ((p0_2 &&& (4 : Int32)) = (0 : Int32))))), .unset, .unset, .unset] [(.ref b474), (.ref b445), (.ref b434), (.ref b434)])) _
        refine XS.dup X474.here hx rfl (hb hby at_136) rfl rfl ?_
        show Steps p.tables e below (T474.setTop (mkF m 137 #[.val (.long q0_0), .second, .val (.long q0_1), .second, .val (.int p0_2), .val (.long OFF), .second, .val (.int (p0_2 &&& (3 : Int32))), .val (.long ROOM), .second, .val (.long LIM), .second, .val (.int (bI (¬ ((p0_2 &&& (4 : Int32)) = (0 : Int32))))), .unset, .unset, .unset] [(.ref b474), (.ref b474), (.ref b445), (.ref b434), (.ref b434)])) _
        refine st493.trans ?_
        exact k)
      have f496 := f478.keep K493
      have f497 := f479.keep K493 (ninS ne475 nin0)
      have f498 := f480.keep K493 (ninS ne475 nin0)
      have f499 := f481.keep K493 (ninS ne475 nin0)
      have f500 := f482.keep K493 (ninS ne475 nin0)
      have f501 := f483.keep K493 (ninS ne475 nin0)
      have f502 := f484.keep K493 (ninS ne475 nin0)
      have f503 := f485.keep K493 (ninS ne475 nin0)
      have f504 := f486.keep K493
      have f505 := f487.keep K493 (ninS ne476 nin0)
      have f506 := f488.keep K493 (ninS ne476 nin0)
      have f507 := A474.keep K493
      have z508 := Nat.le_trans z489 K493.1
      have o509 := o490.keep K493 (allS gz474 all0)
      obtain ⟨T510, h510, X510, e510, E510, A510, D510, -, st510⟩ := newO X493 hx hZ hown (hVV 4 _ rfl) (hVV 5 _ rfl) (hVV 6 _ rfl) rfl (g := (mkF m 140 #[.val (.long q0_0), .second, .val (.long q0_1), .second, .val (.int p0_2), .val (.long OFF), .second, .val (.int (p0_2 &&& (3 : Int32))), .val (.long ROOM), .second, .val (.long LIM), .second, .val (.int (bI (¬ ((p0_2 &&& (4 : Int32)) = (0 : Int32))))), .unset, .unset, .unset] [(.ref b474), (.ref b445), (.ref b434), (.ref b434)])) rfl (hb hby at_140) (by decide) (by decide)
      obtain ⟨b510, g510⟩ : ∃ z, z = T493.heap.size := ⟨_, rfl⟩
      rw [← g510] at A510 D510 st510
      have gz510 : n0 ≤ b510 := Nat.le_trans z508 (Nat.le_of_eq g510.symm)
      have ne511 : b434 ≠ b510 := Nat.ne_of_lt (Nat.lt_of_lt_of_le f496.lt (Nat.le_of_eq g510.symm))
      have ne512 : b445 ≠ b510 := Nat.ne_of_lt (Nat.lt_of_lt_of_le f504.lt (Nat.le_of_eq g510.symm))
      have ne513 : b474 ≠ b510 := Nat.ne_of_lt (Nat.lt_of_lt_of_le r493_0.lt (Nat.le_of_eq g510.symm))
      have pre514 : ∀ t, Steps p.tables e below (T510.setTop (mkF m 143 #[.val (.long q0_0), .second, .val (.long q0_1), .second, .val (.int p0_2), .val (.long OFF), .second, .val (.int (p0_2 &&& (3 : Int32))), .val (.long ROOM), .second, .val (.long LIM), .second, .val (.int (bI (¬ ((p0_2 &&& (4 : Int32)) = (0 : Int32))))), .unset, .unset, .unset] [(.ref b510), (.ref b474), (.ref b445), (.ref b434), (.ref b434)])) t → Steps p.tables e below (s₁.setTop (entryFrame m #[(.long q0_0), (.long q0_1), (.int p0_2)] maxLocals)) t := fun t k => pre495 t (by
        show Steps p.tables e below (T493.setTop (mkF m 140 #[.val (.long q0_0), .second, .val (.long q0_1), .second, .val (.int p0_2), .val (.long OFF), .second, .val (.int (p0_2 &&& (3 : Int32))), .val (.long ROOM), .second, .val (.long LIM), .second, .val (.int (bI (¬ ((p0_2 &&& (4 : Int32)) = (0 : Int32))))), .unset, .unset, .unset] [(.ref b474), (.ref b445), (.ref b434), (.ref b434)])) _
        refine st510 _ ?_
        exact k)
      have f515 := f496.ext E510
      have f516 := f497.ext E510
      have f517 := f498.ext E510
      have f518 := f499.ext E510
      have f519 := f500.ext E510
      have f520 := f501.ext E510
      have f521 := f502.ext E510
      have f522 := f503.ext E510
      have f523 := f504.ext E510
      have f524 := f505.ext E510
      have f525 := f506.ext E510
      have f526 := r493_0.ext E510
      have f527 := r493_1.ext E510
      have f528 := r493_2.ext E510
      have z529 := Nat.le_trans z508 E510.1
      have o530 := o509.ext E510
      have f531 : Fld Z h510 b510 "java/util/AbstractList" "modCount" "I" (.int (0 : Int32)) := D510 (Or.inl (hVV 26 _ rfl)) (ty := .int) (by decide)
      have f532 : Fld Z h510 b510 "java/util/ArrayList" "elementData" "[Ljava/lang/Object;" .null := D510 (Or.inl (hVV 29 _ rfl)) (ty := (.array (.object "java/lang/Object"))) (by decide)
      obtain ⟨_, _, ⟨T533, L533, k533, n533⟩, -, X533, ⟨Lc533, hQ533, l533, y533, z533⟩, st533⟩ := X510.specialBack hx (y := (⟨"java/util/ArrayList", "<init>", "()V"⟩ : MethodName)) rfl hown (mvT hZ (hVV 7 _ rfl)) (mvT hZ (hVV 8 _ rfl)) (mvT hZ (hVV 9 _ rfl)) (by decide) (backOf (W := 5) (rm1 l Z a0 hw [] b510 (0 : Int32) .null w0_DEFAULTCAPACITY_EMPTY_ELEMENTDATA h510 n0 z529 o530 A510 f531 f532 gz510 S_DEFAULTCAPACITY_EMPTY_ELEMENTDATA) hZ (hVV 9 _ rfl) (hVV 6 _ rfl) (by decide) (by decide)) (g := (mkF m 144 #[.val (.long q0_0), .second, .val (.long q0_1), .second, .val (.int p0_2), .val (.long OFF), .second, .val (.int (p0_2 &&& (3 : Int32))), .val (.long ROOM), .second, .val (.long LIM), .second, .val (.int (bI (¬ ((p0_2 &&& (4 : Int32)) = (0 : Int32))))), .unset, .unset, .unset] [(.ref b510), (.ref b510), (.ref b474), (.ref b445), (.ref b434), (.ref b434)])) rfl (by rw [hml]; rfl) (Steps.refl _) (a := b510) (argsL := []) (rest := [(.ref b510), (.ref b474), (.ref b445), (.ref b434), (.ref b434)]) (lenOf pd_0 rfl) rfl (by show 2 * 0 + _ ≤ _; exact Nat.le_of_eq rfl) (hb hby at_144) (fun _ _ => ⟨rfl, e510, (by decide : 4 + 0 ≤ _), (by decide : 16 + 0 ≤ _)⟩)
      dsimp only [Pt.U, Pt.locs, Pt.cells, Pt.slots] at X533 l533 y533 z533 st533 hQ533
      subst l533 y533 z533
      obtain ⟨rfl, N533q, K533, r533_0, r533_1, r533_2⟩ := hQ533
      have N534 := Fr.app N494 N533q
      have pre535 : ∀ t, Steps p.tables e below (T533.setTop (mkF m 147 #[.val (.long q0_0), .second, .val (.long q0_1), .second, .val (.int p0_2), .val (.long OFF), .second, .val (.int (p0_2 &&& (3 : Int32))), .val (.long ROOM), .second, .val (.long LIM), .second, .val (.int (bI (¬ ((p0_2 &&& (4 : Int32)) = (0 : Int32))))), .unset, .unset, .unset] [(.ref b510), (.ref b474), (.ref b445), (.ref b434), (.ref b434)])) t → Steps p.tables e below (s₁.setTop (entryFrame m #[(.long q0_0), (.long q0_1), (.int p0_2)] maxLocals)) t := fun t k => pre514 t (by
        show Steps p.tables e below (T510.setTop (mkF m 143 #[.val (.long q0_0), .second, .val (.long q0_1), .second, .val (.int p0_2), .val (.long OFF), .second, .val (.int (p0_2 &&& (3 : Int32))), .val (.long ROOM), .second, .val (.long LIM), .second, .val (.int (bI (¬ ((p0_2 &&& (4 : Int32)) = (0 : Int32))))), .unset, .unset, .unset] [(.ref b510), (.ref b474), (.ref b445), (.ref b434), (.ref b434)])) _
        refine XS.dup X510.here hx rfl (hb hby at_143) rfl rfl ?_
        show Steps p.tables e below (T510.setTop (mkF m 144 #[.val (.long q0_0), .second, .val (.long q0_1), .second, .val (.int p0_2), .val (.long OFF), .second, .val (.int (p0_2 &&& (3 : Int32))), .val (.long ROOM), .second, .val (.long LIM), .second, .val (.int (bI (¬ ((p0_2 &&& (4 : Int32)) = (0 : Int32))))), .unset, .unset, .unset] [(.ref b510), (.ref b510), (.ref b474), (.ref b445), (.ref b434), (.ref b434)])) _
        refine st533.trans ?_
        exact k)
      have f536 := f515.keep K533
      have f537 := f516.keep K533 (ninS ne511 nin0)
      have f538 := f517.keep K533 (ninS ne511 nin0)
      have f539 := f518.keep K533 (ninS ne511 nin0)
      have f540 := f519.keep K533 (ninS ne511 nin0)
      have f541 := f520.keep K533 (ninS ne511 nin0)
      have f542 := f521.keep K533 (ninS ne511 nin0)
      have f543 := f522.keep K533 (ninS ne511 nin0)
      have f544 := f523.keep K533
      have f545 := f524.keep K533 (ninS ne512 nin0)
      have f546 := f525.keep K533 (ninS ne512 nin0)
      have f547 := f526.keep K533
      have f548 := f527.keep K533 (ninS ne513 nin0)
      have f549 := f528.keep K533 (ninS ne513 nin0)
      have f550 := A510.keep K533
      have z551 := Nat.le_trans z529 K533.1
      have o552 := o530.keep K533 (allS gz510 all0)
      obtain ⟨T553, h553, X553, e553, E553, A553, D553, -, st553⟩ := newO X533 hx hZ hown (hVV 4 _ rfl) (hVV 5 _ rfl) (hVV 6 _ rfl) rfl (g := (mkF m 149 #[.val (.long q0_0), .second, .val (.long q0_1), .second, .val (.int p0_2), .val (.long OFF), .second, .val (.int (p0_2 &&& (3 : Int32))), .val (.long ROOM), .second, .val (.long LIM), .second, .val (.int (bI (¬ ((p0_2 &&& (4 : Int32)) = (0 : Int32))))), .unset, .unset, .unset] [(.int (bI (¬ ((p0_2 &&& (4 : Int32)) = (0 : Int32))))), (.ref b510), (.ref b474), (.ref b445), (.ref b434), (.ref b434)])) rfl (hb hby at_149) (by decide) (by decide)
      obtain ⟨b553, g553⟩ : ∃ z, z = T533.heap.size := ⟨_, rfl⟩
      rw [← g553] at A553 D553 st553
      have gz553 : n0 ≤ b553 := Nat.le_trans z551 (Nat.le_of_eq g553.symm)
      have ne554 : b434 ≠ b553 := Nat.ne_of_lt (Nat.lt_of_lt_of_le f536.lt (Nat.le_of_eq g553.symm))
      have ne555 : b445 ≠ b553 := Nat.ne_of_lt (Nat.lt_of_lt_of_le f544.lt (Nat.le_of_eq g553.symm))
      have ne556 : b474 ≠ b553 := Nat.ne_of_lt (Nat.lt_of_lt_of_le f547.lt (Nat.le_of_eq g553.symm))
      have ne557 : b510 ≠ b553 := Nat.ne_of_lt (Nat.lt_of_lt_of_le r533_0.lt (Nat.le_of_eq g553.symm))
      have pre558 : ∀ t, Steps p.tables e below (T553.setTop (mkF m 152 #[.val (.long q0_0), .second, .val (.long q0_1), .second, .val (.int p0_2), .val (.long OFF), .second, .val (.int (p0_2 &&& (3 : Int32))), .val (.long ROOM), .second, .val (.long LIM), .second, .val (.int (bI (¬ ((p0_2 &&& (4 : Int32)) = (0 : Int32))))), .unset, .unset, .unset] [(.ref b553), (.int (bI (¬ ((p0_2 &&& (4 : Int32)) = (0 : Int32))))), (.ref b510), (.ref b474), (.ref b445), (.ref b434), (.ref b434)])) t → Steps p.tables e below (s₁.setTop (entryFrame m #[(.long q0_0), (.long q0_1), (.int p0_2)] maxLocals)) t := fun t k => pre535 t (by
        show Steps p.tables e below (T533.setTop (mkF m 147 #[.val (.long q0_0), .second, .val (.long q0_1), .second, .val (.int p0_2), .val (.long OFF), .second, .val (.int (p0_2 &&& (3 : Int32))), .val (.long ROOM), .second, .val (.long LIM), .second, .val (.int (bI (¬ ((p0_2 &&& (4 : Int32)) = (0 : Int32))))), .unset, .unset, .unset] [(.ref b510), (.ref b474), (.ref b445), (.ref b434), (.ref b434)])) _
        refine XS.iload X533.here hx rfl (hb hby at_147) rfl ?_
        show Steps p.tables e below (T533.setTop (mkF m 149 #[.val (.long q0_0), .second, .val (.long q0_1), .second, .val (.int p0_2), .val (.long OFF), .second, .val (.int (p0_2 &&& (3 : Int32))), .val (.long ROOM), .second, .val (.long LIM), .second, .val (.int (bI (¬ ((p0_2 &&& (4 : Int32)) = (0 : Int32))))), .unset, .unset, .unset] [(.int (bI (¬ ((p0_2 &&& (4 : Int32)) = (0 : Int32))))), (.ref b510), (.ref b474), (.ref b445), (.ref b434), (.ref b434)])) _
        refine st553 _ ?_
        exact k)
      have f559 := f536.ext E553
      have f560 := f537.ext E553
      have f561 := f538.ext E553
      have f562 := f539.ext E553
      have f563 := f540.ext E553
      have f564 := f541.ext E553
      have f565 := f542.ext E553
      have f566 := f543.ext E553
      have f567 := f544.ext E553
      have f568 := f545.ext E553
      have f569 := f546.ext E553
      have f570 := f547.ext E553
      have f571 := f548.ext E553
      have f572 := f549.ext E553
      have f573 := r533_0.ext E553
      have f574 := r533_1.ext E553
      have f575 := r533_2.ext E553
      have z576 := Nat.le_trans z551 E553.1
      have o577 := o552.ext E553
      have f578 : Fld Z h553 b553 "java/util/AbstractList" "modCount" "I" (.int (0 : Int32)) := D553 (Or.inl (hVV 26 _ rfl)) (ty := .int) (by decide)
      have f579 : Fld Z h553 b553 "java/util/ArrayList" "elementData" "[Ljava/lang/Object;" .null := D553 (Or.inl (hVV 29 _ rfl)) (ty := (.array (.object "java/lang/Object"))) (by decide)
      obtain ⟨_, _, ⟨T580, L580, k580, n580⟩, -, X580, ⟨Lc580, hQ580, l580, y580, z580⟩, st580⟩ := X553.specialBack hx (y := (⟨"java/util/ArrayList", "<init>", "()V"⟩ : MethodName)) rfl hown (mvT hZ (hVV 7 _ rfl)) (mvT hZ (hVV 8 _ rfl)) (mvT hZ (hVV 9 _ rfl)) (by decide) (backOf (W := 7) (rm1 l Z a0 hw [] b553 (0 : Int32) .null w0_DEFAULTCAPACITY_EMPTY_ELEMENTDATA h553 n0 z576 o577 A553 f578 f579 gz553 S_DEFAULTCAPACITY_EMPTY_ELEMENTDATA) hZ (hVV 9 _ rfl) (hVV 6 _ rfl) (by decide) (by decide)) (g := (mkF m 153 #[.val (.long q0_0), .second, .val (.long q0_1), .second, .val (.int p0_2), .val (.long OFF), .second, .val (.int (p0_2 &&& (3 : Int32))), .val (.long ROOM), .second, .val (.long LIM), .second, .val (.int (bI (¬ ((p0_2 &&& (4 : Int32)) = (0 : Int32))))), .unset, .unset, .unset] [(.ref b553), (.ref b553), (.int (bI (¬ ((p0_2 &&& (4 : Int32)) = (0 : Int32))))), (.ref b510), (.ref b474), (.ref b445), (.ref b434), (.ref b434)])) rfl (by rw [hml]; rfl) (Steps.refl _) (a := b553) (argsL := []) (rest := [(.ref b553), (.int (bI (¬ ((p0_2 &&& (4 : Int32)) = (0 : Int32))))), (.ref b510), (.ref b474), (.ref b445), (.ref b434), (.ref b434)]) (lenOf pd_0 rfl) rfl (by show 2 * 0 + _ ≤ _; exact Nat.le_of_eq rfl) (hb hby at_153) (fun _ _ => ⟨rfl, e553, (by decide : 5 + 0 ≤ _), (by decide : 19 + 0 ≤ _)⟩)
      dsimp only [Pt.U, Pt.locs, Pt.cells, Pt.slots] at X580 l580 y580 z580 st580 hQ580
      subst l580 y580 z580
      obtain ⟨rfl, N580q, K580, r580_0, r580_1, r580_2⟩ := hQ580
      have N581 := Fr.app N534 N580q
      have pre582 : ∀ t, Steps p.tables e below (T580.setTop (mkF m 156 #[.val (.long q0_0), .second, .val (.long q0_1), .second, .val (.int p0_2), .val (.long OFF), .second, .val (.int (p0_2 &&& (3 : Int32))), .val (.long ROOM), .second, .val (.long LIM), .second, .val (.int (bI (¬ ((p0_2 &&& (4 : Int32)) = (0 : Int32))))), .unset, .unset, .unset] [(.ref b553), (.int (bI (¬ ((p0_2 &&& (4 : Int32)) = (0 : Int32))))), (.ref b510), (.ref b474), (.ref b445), (.ref b434), (.ref b434)])) t → Steps p.tables e below (s₁.setTop (entryFrame m #[(.long q0_0), (.long q0_1), (.int p0_2)] maxLocals)) t := fun t k => pre558 t (by
        show Steps p.tables e below (T553.setTop (mkF m 152 #[.val (.long q0_0), .second, .val (.long q0_1), .second, .val (.int p0_2), .val (.long OFF), .second, .val (.int (p0_2 &&& (3 : Int32))), .val (.long ROOM), .second, .val (.long LIM), .second, .val (.int (bI (¬ ((p0_2 &&& (4 : Int32)) = (0 : Int32))))), .unset, .unset, .unset] [(.ref b553), (.int (bI (¬ ((p0_2 &&& (4 : Int32)) = (0 : Int32))))), (.ref b510), (.ref b474), (.ref b445), (.ref b434), (.ref b434)])) _
        refine XS.dup X553.here hx rfl (hb hby at_152) rfl rfl ?_
        show Steps p.tables e below (T553.setTop (mkF m 153 #[.val (.long q0_0), .second, .val (.long q0_1), .second, .val (.int p0_2), .val (.long OFF), .second, .val (.int (p0_2 &&& (3 : Int32))), .val (.long ROOM), .second, .val (.long LIM), .second, .val (.int (bI (¬ ((p0_2 &&& (4 : Int32)) = (0 : Int32))))), .unset, .unset, .unset] [(.ref b553), (.ref b553), (.int (bI (¬ ((p0_2 &&& (4 : Int32)) = (0 : Int32))))), (.ref b510), (.ref b474), (.ref b445), (.ref b434), (.ref b434)])) _
        refine st580.trans ?_
        exact k)
      have f583 := f559.keep K580
      have f584 := f560.keep K580 (ninS ne554 nin0)
      have f585 := f561.keep K580 (ninS ne554 nin0)
      have f586 := f562.keep K580 (ninS ne554 nin0)
      have f587 := f563.keep K580 (ninS ne554 nin0)
      have f588 := f564.keep K580 (ninS ne554 nin0)
      have f589 := f565.keep K580 (ninS ne554 nin0)
      have f590 := f566.keep K580 (ninS ne554 nin0)
      have f591 := f567.keep K580
      have f592 := f568.keep K580 (ninS ne555 nin0)
      have f593 := f569.keep K580 (ninS ne555 nin0)
      have f594 := f570.keep K580
      have f595 := f571.keep K580 (ninS ne556 nin0)
      have f596 := f572.keep K580 (ninS ne556 nin0)
      have f597 := f573.keep K580
      have f598 := f574.keep K580 (ninS ne557 nin0)
      have f599 := f575.keep K580 (ninS ne557 nin0)
      have f600 := A553.keep K580
      have z601 := Nat.le_trans z576 K580.1
      have o602 := o577.keep K580 (allS gz553 all0)
      obtain ⟨_, _, ⟨T603, L603, k603, n603⟩, -, X603, ⟨Lc603, hQ603, l603, y603, z603⟩, st603⟩ := X580.specialBack hx (y := (⟨"com/example/tripleshard/tripleshard/sparql/Query", "<init>", "(Ljava/util/List;Ljava/util/List;Ljava/util/List;ZLjava/util/List;JJ)V"⟩ : MethodName)) rfl hown (mvT hZ (hVV 30 _ rfl)) (mvT hZ (hVV 31 _ rfl)) (mvT hZ (hVV 32 _ rfl)) (by decide) (backOf (W := 1) (rm5 l Z a0 hw [] b434 b445 b474 b510 (bI (¬ ((p0_2 &&& (4 : Int32)) = (0 : Int32)))) b553 OFF LIM .null .null .null (0 : Int32) .null (0 : Int64) (0 : Int64) T580.heap n0 z601 f583 f584 f585 f586 f587 f588 f589 f590 gz434) hZ (hVV 32 _ rfl) (hVV 3 _ rfl) (by decide) (by decide)) (g := (mkF m 160 #[.val (.long q0_0), .second, .val (.long q0_1), .second, .val (.int p0_2), .val (.long OFF), .second, .val (.int (p0_2 &&& (3 : Int32))), .val (.long ROOM), .second, .val (.long LIM), .second, .val (.int (bI (¬ ((p0_2 &&& (4 : Int32)) = (0 : Int32))))), .unset, .unset, .unset] [(.long LIM), (.long OFF), (.ref b553), (.int (bI (¬ ((p0_2 &&& (4 : Int32)) = (0 : Int32))))), (.ref b510), (.ref b474), (.ref b445), (.ref b434), (.ref b434)])) rfl (by rw [hml]; rfl) (Steps.refl _) (a := b434) (argsL := [(.ref b445), (.ref b474), (.ref b510), (.int (bI (¬ ((p0_2 &&& (4 : Int32)) = (0 : Int32))))), (.ref b553), (.long OFF), (.long LIM)]) (rest := [(.ref b434)]) (lenOf pd_1 rfl) rfl (by show 2 * 0 + _ ≤ _; exact Nat.le_of_eq rfl) (hb hby at_160) (fun _ _ => ⟨rfl, rfl, (by decide : 5 + 0 ≤ _), (by decide : 19 + 0 ≤ _)⟩)
      dsimp only [Pt.U, Pt.locs, Pt.cells, Pt.slots] at X603 l603 y603 z603 st603 hQ603
      subst l603 y603 z603
      obtain ⟨rfl, N603q, K603, r603_0, r603_1, r603_2, r603_3, r603_4, r603_5, r603_6, r603_7⟩ := hQ603
      have N604 := Fr.app N581 N603q
      have pre605 : ∀ t, Steps p.tables e below (T603.setTop (mkF m 163 #[.val (.long q0_0), .second, .val (.long q0_1), .second, .val (.int p0_2), .val (.long OFF), .second, .val (.int (p0_2 &&& (3 : Int32))), .val (.long ROOM), .second, .val (.long LIM), .second, .val (.int (bI (¬ ((p0_2 &&& (4 : Int32)) = (0 : Int32))))), .unset, .unset, .unset] [(.ref b434)])) t → Steps p.tables e below (s₁.setTop (entryFrame m #[(.long q0_0), (.long q0_1), (.int p0_2)] maxLocals)) t := fun t k => pre582 t (by
        show Steps p.tables e below (T580.setTop (mkF m 156 #[.val (.long q0_0), .second, .val (.long q0_1), .second, .val (.int p0_2), .val (.long OFF), .second, .val (.int (p0_2 &&& (3 : Int32))), .val (.long ROOM), .second, .val (.long LIM), .second, .val (.int (bI (¬ ((p0_2 &&& (4 : Int32)) = (0 : Int32))))), .unset, .unset, .unset] [(.ref b553), (.int (bI (¬ ((p0_2 &&& (4 : Int32)) = (0 : Int32))))), (.ref b510), (.ref b474), (.ref b445), (.ref b434), (.ref b434)])) _
        refine XS.lload X580.here hx rfl (hb hby at_156) rfl ?_
        show Steps p.tables e below (T580.setTop (mkF m 158 #[.val (.long q0_0), .second, .val (.long q0_1), .second, .val (.int p0_2), .val (.long OFF), .second, .val (.int (p0_2 &&& (3 : Int32))), .val (.long ROOM), .second, .val (.long LIM), .second, .val (.int (bI (¬ ((p0_2 &&& (4 : Int32)) = (0 : Int32))))), .unset, .unset, .unset] [(.long OFF), (.ref b553), (.int (bI (¬ ((p0_2 &&& (4 : Int32)) = (0 : Int32))))), (.ref b510), (.ref b474), (.ref b445), (.ref b434), (.ref b434)])) _
        refine XS.lload X580.here hx rfl (hb hby at_158) rfl ?_
        show Steps p.tables e below (T580.setTop (mkF m 160 #[.val (.long q0_0), .second, .val (.long q0_1), .second, .val (.int p0_2), .val (.long OFF), .second, .val (.int (p0_2 &&& (3 : Int32))), .val (.long ROOM), .second, .val (.long LIM), .second, .val (.int (bI (¬ ((p0_2 &&& (4 : Int32)) = (0 : Int32))))), .unset, .unset, .unset] [(.long LIM), (.long OFF), (.ref b553), (.int (bI (¬ ((p0_2 &&& (4 : Int32)) = (0 : Int32))))), (.ref b510), (.ref b474), (.ref b445), (.ref b434), (.ref b434)])) _
        refine st603.trans ?_
        exact k)
      have f606 := f583.keep K603
      have f607 := f591.keep K603
      have f608 := f592.keep K603 (ninS (Ne.symm ne446) nin0)
      have f609 := f593.keep K603 (ninS (Ne.symm ne446) nin0)
      have f610 := f594.keep K603
      have f611 := f595.keep K603 (ninS (Ne.symm ne475) nin0)
      have f612 := f596.keep K603 (ninS (Ne.symm ne475) nin0)
      have f613 := f597.keep K603
      have f614 := f598.keep K603 (ninS (Ne.symm ne511) nin0)
      have f615 := f599.keep K603 (ninS (Ne.symm ne511) nin0)
      have f616 := r580_0.keep K603
      have f617 := r580_1.keep K603 (ninS (Ne.symm ne554) nin0)
      have f618 := r580_2.keep K603 (ninS (Ne.symm ne554) nin0)
      have z619 := Nat.le_trans z601 K603.1
      have o620 := o602.keep K603 (allS gz434 all0)
      have pre622 : ∀ t, Steps p.tables e below (T603.setTop (mkF m 174 #[.val (.long q0_0), .second, .val (.long q0_1), .second, .val (.int p0_2), .val (.long OFF), .second, .val (.int (p0_2 &&& (3 : Int32))), .val (.long ROOM), .second, .val (.long LIM), .second, .val (.int (bI (¬ ((p0_2 &&& (4 : Int32)) = (0 : Int32))))), .val (.ref b434), .unset, .unset] [(.int (lcmpW OFF ((9223372036854775807 : Int64) - LIM)))])) t → Steps p.tables e below (s₁.setTop (entryFrame m #[(.long q0_0), (.long q0_1), (.int p0_2)] maxLocals)) t := fun t k => pre605 t (by
        show Steps p.tables e below (T603.setTop (mkF m 163 #[.val (.long q0_0), .second, .val (.long q0_1), .second, .val (.int p0_2), .val (.long OFF), .second, .val (.int (p0_2 &&& (3 : Int32))), .val (.long ROOM), .second, .val (.long LIM), .second, .val (.int (bI (¬ ((p0_2 &&& (4 : Int32)) = (0 : Int32))))), .unset, .unset, .unset] [(.ref b434)])) _
        refine XS.astore X603.here hx rfl (hb hby at_163) rfl rfl (l' := #[.val (.long q0_0), .second, .val (.long q0_1), .second, .val (.int p0_2), .val (.long OFF), .second, .val (.int (p0_2 &&& (3 : Int32))), .val (.long ROOM), .second, .val (.long LIM), .second, .val (.int (bI (¬ ((p0_2 &&& (4 : Int32)) = (0 : Int32))))), .val (.ref b434), .unset, .unset]) rfl ?_
        show Steps p.tables e below (T603.setTop (mkF m 165 #[.val (.long q0_0), .second, .val (.long q0_1), .second, .val (.int p0_2), .val (.long OFF), .second, .val (.int (p0_2 &&& (3 : Int32))), .val (.long ROOM), .second, .val (.long LIM), .second, .val (.int (bI (¬ ((p0_2 &&& (4 : Int32)) = (0 : Int32))))), .val (.ref b434), .unset, .unset] [])) _
        refine XS.lload X603.here hx rfl (hb hby at_165) rfl ?_
        show Steps p.tables e below (T603.setTop (mkF m 167 #[.val (.long q0_0), .second, .val (.long q0_1), .second, .val (.int p0_2), .val (.long OFF), .second, .val (.int (p0_2 &&& (3 : Int32))), .val (.long ROOM), .second, .val (.long LIM), .second, .val (.int (bI (¬ ((p0_2 &&& (4 : Int32)) = (0 : Int32))))), .val (.ref b434), .unset, .unset] [(.long OFF)])) _
        refine X603.ldc2Long hx hown (mvT hZ (hVV 0 _ rfl)) (g := (mkF m 167 #[.val (.long q0_0), .second, .val (.long q0_1), .second, .val (.int p0_2), .val (.long OFF), .second, .val (.int (p0_2 &&& (3 : Int32))), .val (.long ROOM), .second, .val (.long LIM), .second, .val (.int (bI (¬ ((p0_2 &&& (4 : Int32)) = (0 : Int32))))), .val (.ref b434), .unset, .unset] [(.long OFF)])) rfl (hb hby at_167) _ ?_
        show Steps p.tables e below (T603.setTop (mkF m 170 #[.val (.long q0_0), .second, .val (.long q0_1), .second, .val (.int p0_2), .val (.long OFF), .second, .val (.int (p0_2 &&& (3 : Int32))), .val (.long ROOM), .second, .val (.long LIM), .second, .val (.int (bI (¬ ((p0_2 &&& (4 : Int32)) = (0 : Int32))))), .val (.ref b434), .unset, .unset] [(.long (9223372036854775807 : Int64)), (.long OFF)])) _
        refine XS.lload X603.here hx rfl (hb hby at_170) rfl ?_
        show Steps p.tables e below (T603.setTop (mkF m 172 #[.val (.long q0_0), .second, .val (.long q0_1), .second, .val (.int p0_2), .val (.long OFF), .second, .val (.int (p0_2 &&& (3 : Int32))), .val (.long ROOM), .second, .val (.long LIM), .second, .val (.int (bI (¬ ((p0_2 &&& (4 : Int32)) = (0 : Int32))))), .val (.ref b434), .unset, .unset] [(.long LIM), (.long (9223372036854775807 : Int64)), (.long OFF)])) _
        refine XS.lsub X603.here hx rfl (hb hby at_172) rfl ?_
        show Steps p.tables e below (T603.setTop (mkF m 173 #[.val (.long q0_0), .second, .val (.long q0_1), .second, .val (.int p0_2), .val (.long OFF), .second, .val (.int (p0_2 &&& (3 : Int32))), .val (.long ROOM), .second, .val (.long LIM), .second, .val (.int (bI (¬ ((p0_2 &&& (4 : Int32)) = (0 : Int32))))), .val (.ref b434), .unset, .unset] [(.long ((9223372036854775807 : Int64) - LIM)), (.long OFF)])) _
        refine XS.lcmp X603.here hx rfl (hb hby at_173) rfl ?_
        exact k)
      have pre623 : ∀ t, Steps p.tables e below (T603.setTop (mkF m 188 #[.val (.long q0_0), .second, .val (.long q0_1), .second, .val (.int p0_2), .val (.long OFF), .second, .val (.int (p0_2 &&& (3 : Int32))), .val (.long ROOM), .second, .val (.long LIM), .second, .val (.int (bI (¬ ((p0_2 &&& (4 : Int32)) = (0 : Int32))))), .val (.ref b434), .unset, .unset] [(.long (if ((9223372036854775807 : Int64) - LIM) < OFF then (9223372036854775807 : Int64) else (OFF + LIM)))])) t → Steps p.tables e below (s₁.setTop (entryFrame m #[(.long q0_0), (.long q0_1), (.int p0_2)] maxLocals)) t := fun t k => pre622 t (by
        by_cases hc621 : ((9223372036854775807 : Int64) - LIM) < OFF
        · show Steps p.tables e below (T603.setTop (mkF m 174 #[.val (.long q0_0), .second, .val (.long q0_1), .second, .val (.int p0_2), .val (.long OFF), .second, .val (.int (p0_2 &&& (3 : Int32))), .val (.long ROOM), .second, .val (.long LIM), .second, .val (.int (bI (¬ ((p0_2 &&& (4 : Int32)) = (0 : Int32))))), .val (.ref b434), .unset, .unset] [(.int (lcmpW OFF ((9223372036854775807 : Int64) - LIM)))])) _
          refine XS.ifNo X603.here hx rfl (hb hby at_174) rfl ((if0 _ _).trans (tlt ((lw_gt _ _).mpr hc621)).2.2.2) ?_
          show Steps p.tables e below (T603.setTop (mkF m 177 #[.val (.long q0_0), .second, .val (.long q0_1), .second, .val (.int p0_2), .val (.long OFF), .second, .val (.int (p0_2 &&& (3 : Int32))), .val (.long ROOM), .second, .val (.long LIM), .second, .val (.int (bI (¬ ((p0_2 &&& (4 : Int32)) = (0 : Int32))))), .val (.ref b434), .unset, .unset] [])) _
          refine X603.ldc2Long hx hown (mvT hZ (hVV 0 _ rfl)) (g := (mkF m 177 #[.val (.long q0_0), .second, .val (.long q0_1), .second, .val (.int p0_2), .val (.long OFF), .second, .val (.int (p0_2 &&& (3 : Int32))), .val (.long ROOM), .second, .val (.long LIM), .second, .val (.int (bI (¬ ((p0_2 &&& (4 : Int32)) = (0 : Int32))))), .val (.ref b434), .unset, .unset] [])) rfl (hb hby at_177) _ ?_
          show Steps p.tables e below (T603.setTop (mkF m 180 #[.val (.long q0_0), .second, .val (.long q0_1), .second, .val (.int p0_2), .val (.long OFF), .second, .val (.int (p0_2 &&& (3 : Int32))), .val (.long ROOM), .second, .val (.long LIM), .second, .val (.int (bI (¬ ((p0_2 &&& (4 : Int32)) = (0 : Int32))))), .val (.ref b434), .unset, .unset] [(.long (9223372036854775807 : Int64))])) _
          refine XS.goto X603.here hx rfl (pc0 := 180) (pc' := 188) rfl (hb hby at_180) (by decide) (by decide) ?_
          have q624 : (if ((9223372036854775807 : Int64) - LIM) < OFF then (9223372036854775807 : Int64) else (OFF + LIM)) = (9223372036854775807 : Int64) := (if_pos hc621)
          exact castTop (g := (mkF m 188 #[.val (.long q0_0), .second, .val (.long q0_1), .second, .val (.int p0_2), .val (.long OFF), .second, .val (.int (p0_2 &&& (3 : Int32))), .val (.long ROOM), .second, .val (.long LIM), .second, .val (.int (bI (¬ ((p0_2 &&& (4 : Int32)) = (0 : Int32))))), .val (.ref b434), .unset, .unset] [(.long (9223372036854775807 : Int64))])) (g' := (mkF m 188 #[.val (.long q0_0), .second, .val (.long q0_1), .second, .val (.int p0_2), .val (.long OFF), .second, .val (.int (p0_2 &&& (3 : Int32))), .val (.long ROOM), .second, .val (.long LIM), .second, .val (.int (bI (¬ ((p0_2 &&& (4 : Int32)) = (0 : Int32))))), .val (.ref b434), .unset, .unset] [(.long (if ((9223372036854775807 : Int64) - LIM) < OFF then (9223372036854775807 : Int64) else (OFF + LIM)))])) (by simp only [q624]) k
        · show Steps p.tables e below (T603.setTop (mkF m 174 #[.val (.long q0_0), .second, .val (.long q0_1), .second, .val (.int p0_2), .val (.long OFF), .second, .val (.int (p0_2 &&& (3 : Int32))), .val (.long ROOM), .second, .val (.long LIM), .second, .val (.int (bI (¬ ((p0_2 &&& (4 : Int32)) = (0 : Int32))))), .val (.ref b434), .unset, .unset] [(.int (lcmpW OFF ((9223372036854775807 : Int64) - LIM)))])) _
          refine XS.ifYes X603.here hx rfl (pc0 := 174) (pc' := 183) rfl (hb hby at_174) rfl ((if0 _ _).trans (flt (fun q => hc621 ((lw_gt _ _).mp q))).2.2.2) (by decide) (by decide) ?_
          show Steps p.tables e below (T603.setTop (mkF m 183 #[.val (.long q0_0), .second, .val (.long q0_1), .second, .val (.int p0_2), .val (.long OFF), .second, .val (.int (p0_2 &&& (3 : Int32))), .val (.long ROOM), .second, .val (.long LIM), .second, .val (.int (bI (¬ ((p0_2 &&& (4 : Int32)) = (0 : Int32))))), .val (.ref b434), .unset, .unset] [])) _
          refine XS.lload X603.here hx rfl (hb hby at_183) rfl ?_
          show Steps p.tables e below (T603.setTop (mkF m 185 #[.val (.long q0_0), .second, .val (.long q0_1), .second, .val (.int p0_2), .val (.long OFF), .second, .val (.int (p0_2 &&& (3 : Int32))), .val (.long ROOM), .second, .val (.long LIM), .second, .val (.int (bI (¬ ((p0_2 &&& (4 : Int32)) = (0 : Int32))))), .val (.ref b434), .unset, .unset] [(.long OFF)])) _
          refine XS.lload X603.here hx rfl (hb hby at_185) rfl ?_
          show Steps p.tables e below (T603.setTop (mkF m 187 #[.val (.long q0_0), .second, .val (.long q0_1), .second, .val (.int p0_2), .val (.long OFF), .second, .val (.int (p0_2 &&& (3 : Int32))), .val (.long ROOM), .second, .val (.long LIM), .second, .val (.int (bI (¬ ((p0_2 &&& (4 : Int32)) = (0 : Int32))))), .val (.ref b434), .unset, .unset] [(.long LIM), (.long OFF)])) _
          refine XS.ladd X603.here hx rfl (hb hby at_187) rfl ?_
          have q625 : (if ((9223372036854775807 : Int64) - LIM) < OFF then (9223372036854775807 : Int64) else (OFF + LIM)) = (OFF + LIM) := (if_neg hc621)
          exact castTop (g := (mkF m 188 #[.val (.long q0_0), .second, .val (.long q0_1), .second, .val (.int p0_2), .val (.long OFF), .second, .val (.int (p0_2 &&& (3 : Int32))), .val (.long ROOM), .second, .val (.long LIM), .second, .val (.int (bI (¬ ((p0_2 &&& (4 : Int32)) = (0 : Int32))))), .val (.ref b434), .unset, .unset] [(.long (OFF + LIM))])) (g' := (mkF m 188 #[.val (.long q0_0), .second, .val (.long q0_1), .second, .val (.int p0_2), .val (.long OFF), .second, .val (.int (p0_2 &&& (3 : Int32))), .val (.long ROOM), .second, .val (.long LIM), .second, .val (.int (bI (¬ ((p0_2 &&& (4 : Int32)) = (0 : Int32))))), .val (.ref b434), .unset, .unset] [(.long (if ((9223372036854775807 : Int64) - LIM) < OFF then (9223372036854775807 : Int64) else (OFF + LIM)))])) (by simp only [q625]) k)
      obtain ⟨cq626, kq626, q626a, q626b, q626c⟩ := isOf hZ rfl r603_0
      obtain ⟨_, _, ⟨T626, L626, k626, n626⟩, -, X626, ⟨Lc626, hQ626, l626, y626, z626⟩, st626⟩ := X603.virtualBack hx (y := (⟨"com/example/tripleshard/tripleshard/sparql/Query", "sliceEnd", "()J"⟩ : MethodName)) (z := (⟨"com/example/tripleshard/tripleshard/sparql/Query", "sliceEnd", "()J"⟩ : MethodName)) hown (mvT hZ (hVV 53 _ rfl)) (mvT hZ (hVV 54 _ rfl)) (notFace_of_selects (args := #[]) (mvT hZ (hVV 56 _ rfl))) (mvT hZ (hVV 56 _ rfl)) (mvT hZ (hVV 55 _ rfl)) (by decide) (backOf (W := 0) (rm7 l Z a0 hw [] b434 OFF LIM T603.heap n0 z619 r603_6 r603_7) hZ (hVV 57 _ rfl) (hVV 3 _ rfl) (by decide) (by decide)) q626a q626c (g := (mkF m 192 #[.val (.long q0_0), .second, .val (.long q0_1), .second, .val (.int p0_2), .val (.long OFF), .second, .val (.int (p0_2 &&& (3 : Int32))), .val (.long ROOM), .second, .val (.long LIM), .second, .val (.int (bI (¬ ((p0_2 &&& (4 : Int32)) = (0 : Int32))))), .val (.ref b434), .val (.long (if ((9223372036854775807 : Int64) - LIM) < OFF then (9223372036854775807 : Int64) else (OFF + LIM))), .second] [(.ref b434)])) rfl (by rw [hml]; rfl) (Steps.refl _) (argsL := []) (rest := []) (lenOf pd_2 rfl) rfl (by show 2 * 0 + _ ≤ _; exact Nat.le_of_eq rfl) (hb hby at_192) (fun _ _ => ⟨rfl, rfl, (by decide : 5 + 0 ≤ _), (by decide : 19 + 0 ≤ _)⟩)
      dsimp only [Pt.U, Pt.locs, Pt.cells, Pt.slots] at X626 l626 y626 z626 st626 hQ626
      subst l626 y626 z626
      obtain ⟨rfl, N626q, e626⟩ := hQ626
      have N627 := Fr.app N604 N626q
      have pre628 : ∀ t, Steps p.tables e below (T626.setTop (mkF m 195 #[.val (.long q0_0), .second, .val (.long q0_1), .second, .val (.int p0_2), .val (.long OFF), .second, .val (.int (p0_2 &&& (3 : Int32))), .val (.long ROOM), .second, .val (.long LIM), .second, .val (.int (bI (¬ ((p0_2 &&& (4 : Int32)) = (0 : Int32))))), .val (.ref b434), .val (.long (if ((9223372036854775807 : Int64) - LIM) < OFF then (9223372036854775807 : Int64) else (OFF + LIM))), .second] [(.long (if (OFF + LIM) < (0 : Int64) then (9223372036854775807 : Int64) else (OFF + LIM)))])) t → Steps p.tables e below (s₁.setTop (entryFrame m #[(.long q0_0), (.long q0_1), (.int p0_2)] maxLocals)) t := fun t k => pre623 t (by
        show Steps p.tables e below (T603.setTop (mkF m 188 #[.val (.long q0_0), .second, .val (.long q0_1), .second, .val (.int p0_2), .val (.long OFF), .second, .val (.int (p0_2 &&& (3 : Int32))), .val (.long ROOM), .second, .val (.long LIM), .second, .val (.int (bI (¬ ((p0_2 &&& (4 : Int32)) = (0 : Int32))))), .val (.ref b434), .unset, .unset] [(.long (if ((9223372036854775807 : Int64) - LIM) < OFF then (9223372036854775807 : Int64) else (OFF + LIM)))])) _
        refine XS.lstore X603.here hx rfl (hb hby at_188) rfl (l' := #[.val (.long q0_0), .second, .val (.long q0_1), .second, .val (.int p0_2), .val (.long OFF), .second, .val (.int (p0_2 &&& (3 : Int32))), .val (.long ROOM), .second, .val (.long LIM), .second, .val (.int (bI (¬ ((p0_2 &&& (4 : Int32)) = (0 : Int32))))), .val (.ref b434), .val (.long (if ((9223372036854775807 : Int64) - LIM) < OFF then (9223372036854775807 : Int64) else (OFF + LIM))), .second]) rfl ?_
        show Steps p.tables e below (T603.setTop (mkF m 190 #[.val (.long q0_0), .second, .val (.long q0_1), .second, .val (.int p0_2), .val (.long OFF), .second, .val (.int (p0_2 &&& (3 : Int32))), .val (.long ROOM), .second, .val (.long LIM), .second, .val (.int (bI (¬ ((p0_2 &&& (4 : Int32)) = (0 : Int32))))), .val (.ref b434), .val (.long (if ((9223372036854775807 : Int64) - LIM) < OFF then (9223372036854775807 : Int64) else (OFF + LIM))), .second] [])) _
        refine XS.aload X603.here hx rfl (hb hby at_190) rfl rfl ?_
        show Steps p.tables e below (T603.setTop (mkF m 192 #[.val (.long q0_0), .second, .val (.long q0_1), .second, .val (.int p0_2), .val (.long OFF), .second, .val (.int (p0_2 &&& (3 : Int32))), .val (.long ROOM), .second, .val (.long LIM), .second, .val (.int (bI (¬ ((p0_2 &&& (4 : Int32)) = (0 : Int32))))), .val (.ref b434), .val (.long (if ((9223372036854775807 : Int64) - LIM) < OFF then (9223372036854775807 : Int64) else (OFF + LIM))), .second] [(.ref b434)])) _
        refine st626.trans ?_
        exact k)
      have hd629 : (lcmpW (if (OFF + LIM) < (0 : Int64) then (9223372036854775807 : Int64) else (OFF + LIM)) (if ((9223372036854775807 : Int64) - LIM) < OFF then (9223372036854775807 : Int64) else (OFF + LIM))) = (0 : Int32) := by
        exact (lw_eq _ _).mpr (own_fin OFF LIM hOFF0 hLIM0)
      obtain ⟨fs, hr, hrun, hended, hW, hsame⟩ := X626.leave (v := some (.int (1 : Int32))) (fun h => by rw [Bd.returns] at h; cases h)
      refine ⟨_, _, pre628 _ ?_, hrun, hended, _, _, rfl, ?_, ⟨_, rfl⟩, hW, hsame.mono (by decide) (by decide)⟩
      · show Steps p.tables e below (T626.setTop (mkF m 195 #[.val (.long q0_0), .second, .val (.long q0_1), .second, .val (.int p0_2), .val (.long OFF), .second, .val (.int (p0_2 &&& (3 : Int32))), .val (.long ROOM), .second, .val (.long LIM), .second, .val (.int (bI (¬ ((p0_2 &&& (4 : Int32)) = (0 : Int32))))), .val (.ref b434), .val (.long (if ((9223372036854775807 : Int64) - LIM) < OFF then (9223372036854775807 : Int64) else (OFF + LIM))), .second] [(.long (if (OFF + LIM) < (0 : Int64) then (9223372036854775807 : Int64) else (OFF + LIM)))])) _
        refine XS.lload X626.here hx rfl (hb hby at_195) rfl ?_
        show Steps p.tables e below (T626.setTop (mkF m 197 #[.val (.long q0_0), .second, .val (.long q0_1), .second, .val (.int p0_2), .val (.long OFF), .second, .val (.int (p0_2 &&& (3 : Int32))), .val (.long ROOM), .second, .val (.long LIM), .second, .val (.int (bI (¬ ((p0_2 &&& (4 : Int32)) = (0 : Int32))))), .val (.ref b434), .val (.long (if ((9223372036854775807 : Int64) - LIM) < OFF then (9223372036854775807 : Int64) else (OFF + LIM))), .second] [(.long (if ((9223372036854775807 : Int64) - LIM) < OFF then (9223372036854775807 : Int64) else (OFF + LIM))), (.long (if (OFF + LIM) < (0 : Int64) then (9223372036854775807 : Int64) else (OFF + LIM)))])) _
        refine XS.lcmp X626.here hx rfl (hb hby at_197) rfl ?_
        show Steps p.tables e below (T626.setTop (mkF m 198 #[.val (.long q0_0), .second, .val (.long q0_1), .second, .val (.int p0_2), .val (.long OFF), .second, .val (.int (p0_2 &&& (3 : Int32))), .val (.long ROOM), .second, .val (.long LIM), .second, .val (.int (bI (¬ ((p0_2 &&& (4 : Int32)) = (0 : Int32))))), .val (.ref b434), .val (.long (if ((9223372036854775807 : Int64) - LIM) < OFF then (9223372036854775807 : Int64) else (OFF + LIM))), .second] [(.int (lcmpW (if (OFF + LIM) < (0 : Int64) then (9223372036854775807 : Int64) else (OFF + LIM)) (if ((9223372036854775807 : Int64) - LIM) < OFF then (9223372036854775807 : Int64) else (OFF + LIM))))])) _
        refine XS.ifNo X626.here hx rfl (hb hby at_198) rfl ((if0 _ _).trans (teq hd629).2) ?_
        show Steps p.tables e below (T626.setTop (mkF m 201 #[.val (.long q0_0), .second, .val (.long q0_1), .second, .val (.int p0_2), .val (.long OFF), .second, .val (.int (p0_2 &&& (3 : Int32))), .val (.long ROOM), .second, .val (.long LIM), .second, .val (.int (bI (¬ ((p0_2 &&& (4 : Int32)) = (0 : Int32))))), .val (.ref b434), .val (.long (if ((9223372036854775807 : Int64) - LIM) < OFF then (9223372036854775807 : Int64) else (OFF + LIM))), .second] [])) _
        refine XS.iconst X626.here hx rfl (hb hby at_201) ?_
        show Steps p.tables e below (T626.setTop (mkF m 202 #[.val (.long q0_0), .second, .val (.long q0_1), .second, .val (.int p0_2), .val (.long OFF), .second, .val (.int (p0_2 &&& (3 : Int32))), .val (.long ROOM), .second, .val (.long LIM), .second, .val (.int (bI (¬ ((p0_2 &&& (4 : Int32)) = (0 : Int32))))), .val (.ref b434), .val (.long (if ((9223372036854775807 : Int64) - LIM) < OFF then (9223372036854775807 : Int64) else (OFF + LIM))), .second] [(.int (1 : Int32))])) _
        refine XS.goto X626.here hx rfl (pc0 := 202) (pc' := 206) rfl (hb hby at_202) (by decide) (by decide) ?_
        show Steps p.tables e below (T626.setTop (mkF m 206 #[.val (.long q0_0), .second, .val (.long q0_1), .second, .val (.int p0_2), .val (.long OFF), .second, .val (.int (p0_2 &&& (3 : Int32))), .val (.long ROOM), .second, .val (.long LIM), .second, .val (.int (bI (¬ ((p0_2 &&& (4 : Int32)) = (0 : Int32))))), .val (.ref b434), .val (.long (if ((9223372036854775807 : Int64) - LIM) < OFF then (9223372036854775807 : Int64) else (OFF + LIM))), .second] [(.int (1 : Int32))])) _
        exact retN X626 hx (t := .boolean) Bd.returns (by simp) (hb hby at_206) hr
      · show Q0 Z q0_0 q0_1 p0_2 w0_DEFAULTCAPACITY_EMPTY_ELEMENTDATA h0 n0 _ T626.heap _
        rw [e626]
        exact ⟨rfl, N627⟩
set_option maxRecDepth 65536 in
set_option maxHeartbeats 40000000 in
theorem comes_1 {Post : Tables → Env → Array Value → State → Outcome → State → Prop} (hpost : ∀ tb e args s v u, (limb_1_1.after args s (.returned v) u = true ∧ limb_1_2.after args s (.returned v) u = true ∧ True) → FrameEnd s (.returned v) u (Jvm.fieldLocs frame_1_writes args s ++ Jvm.arrayLocs frame_1_arrays args s ++ Jvm.staticLocs frame_1_statics s) 24 128 → Post tb e args s (.returned v) u) :
    ArmFor flags0 classFile x code maxLocals ret World_1 tables_1 room_1 Calls_1 rest_1 Pre_1 Post := by
  intro l hfl _ _ p e ha hc hk s m args below hf hA hF happ hP
  obtain ⟨hcalls, hrest, hpre⟩ := hP
  obtain ⟨-, -, -, hnamed, -, -, -, hat⟩ := (Spec.applies_iff hf).mp happ
  obtain ⟨hg, hn⟩ := and_e (Cond.before_iff.mp (show (Jvm.Cond.and given_1 narrow_1).before args s = true from hpre))
  obtain ⟨g1, g2⟩ := and_e hg
  obtain ⟨g3, g4⟩ := and_e g2
  obtain ⟨g5, g6⟩ := and_e g4
  obtain ⟨w0, w1, w2, rfl⟩ : ∃ w0 w1 w2 : Value, args = #[w0, w1, w2] := by
    have hs : args.size = 3 := by simpa [Cond.value, given_1] using g1
    obtain ⟨L⟩ := args
    match L, hs with
    | [w0, w1, w2], _ => exact ⟨w0, w1, w2, rfl⟩
  have hw := fun d (hd : d ∈ tables_1) => atoms_spec (ws := Jvm.Cond.code x code maxLocals ret :: tables_1) hat d (List.mem_cons_of_mem _ hd)
  have hfit : Fit s := fun {y c} hc i hi => by
    obtain ⟨ha, rfl⟩ := Array.getElem?_eq_some_iff.mp hc
    have q := List.all_eq_true.mp ((Array.all_eq_true_iff_forall_mem.mp hF) _ (Array.getElem_mem ha)) i (List.mem_range.mpr hi)
    simpa [Array.getElem?_eq_getElem hi] using q
  obtain ⟨hsets, hown0⟩ := atoms_of _ (rest_1_c_eq ▸ (show rest_1_c.before _ s = true from hrest))
  have hr0 := Cond.before_iff.mp hown0
  obtain ⟨i0, ei0⟩ := isL_v g3
  obtain rfl : w0 = (.long i0) := Option.some.inj ei0
  obtain ⟨i1, ei1⟩ := isL_v g5
  obtain rfl : w1 = (.long i1) := Option.some.inj ei1
  obtain ⟨i2, ei2⟩ := is_v g6
  obtain rfl : w2 = (.int i2) := Option.some.inj ei2
  obtain ⟨sv, esv⟩ := arr_v (Cond.before_iff.mp (hsets _ (List.mem_of_getElem? (i := 6) rfl)))
  have S0 : Sta s s.heap "java/util/ArrayList" "DEFAULTCAPACITY_EMPTY_ELEMENTDATA" "[Ljava/lang/Object;" (.ref sv) := Sta.start esv (Or.inr ⟨hw _ (List.mem_of_getElem? (i := 6) rfl), hsets _ (List.mem_of_getElem? (i := 2) rfl)⟩)
  obtain ⟨n, o, h1, h2, h3, _, L, rfl, ⟨rfl, N⟩, hq⟩ := rm0 l s _ hw tables_1 i0 i1 i2 sv s.heap s.heap.size (Nat.le_refl _) (Old.start s) S0 p e ha hc hk s m _ below hf ((Spec.applies_iff_loose hf).mp happ).1 ⟨rfl, State.Warmed39.refl s, rfl⟩ trivial
  refine ⟨n, _, h1, h2, h3, hpost _ _ _ _ _ _ ⟨Cond.after_iff.mpr rfl, Cond.after_iff.mpr (eq_i res_at (Term.int_eval (1)) rfl), trivial⟩ ⟨hq.1, hq.2.1, (hq.2.2.sift fun y hy => Or.inr (N y hy)).mono (by decide) (by decide)⟩⟩
theorem main_1_1 : Claimed_1_1 := comes_1 fun _ _ _ _ _ _ h hF => ⟨h.1, hF⟩
theorem main_1_2 : Claimed_1_2 := comes_1 fun _ _ _ _ _ _ h hF => ⟨h.2.1, hF⟩
end Jvm.Pilot.@@N@@
namespace Jvm.Pilot.@@N@@
open Jvm Jvm.ClassFile Sem Op Lib Jvm.Free Jvm.Stand Jvm.Pilot.@@N@@.Jvm.D
/-! MADE BY PROGRAM (witnessworld.py) out of the Statement's table words and the real class files: 20 classes; the members and pool entries that the words name. The judged class is class 1, her method 1. -/
namespace start1
open Jvm.ClassFile
def u (s : String) : CpInfo := .utf8 (stringToUtf16 s)
/-- a pool by its gaps: so many unusable entries, then the entry; so many at the end -/
def gap : Nat → List CpInfo → List CpInfo
  | 0, r => r
  | n + 1, r => .unusable :: gap n r
def poolList (es : List (Nat × CpInfo)) (last : Nat) : List CpInfo := es.foldr (fun e r => gap e.1 (e.2 :: r)) (gap last [])
def pool (es : List (Nat × CpInfo)) (last : Nat) : Array CpInfo := ⟨poolList es last⟩
def fileOf (pool : Array CpInfo) (this : Nat) (attrs : Array Attribute := #[]) (ms : Array MethodInfo := #[]) (fl : Nat := 33) (sup : Nat := 0) (ifs : Array Nat := #[]) (fds : Array FieldInfo := #[]) : ClassFile where
  minorVersion := 0
  majorVersion := 65
  constantPool := pool
  accessFlags := fl
  thisClass := this
  superClass := sup
  interfaces := ifs
  fields := fds
  methods := ms
  attributes := attrs
def plain (name : String) (sup : Option ClassId) : Class where
  name := name
  kind := .ordinary
  loader := none
  accessFlags := 33
  super := sup
  interfaces := #[]
  cf := none
  fields := #[]
  methods := #[]
  instanceTypes := #[]
  staticTypes := #[]
  resolved := #[]
  callSites := []
  init := .initialized
  statics := none
  mirror := none

def pool0 : Array CpInfo := pool [(5, u "<init>"), (0, u "()V"), (1, .class_ 10), (1, u "java/lang/Object")] 113

def k0c0 : Code := { maxStack := 0, maxLocals := 1, code := object_method_1_code, exceptionTable := #[], attributes := #[] }
def k0m0 : Method := { name := "<init>", desc := "()V", sig := { parameters := [], returnType := none }, accessFlags := 1, code := some k0c0 }
/-- java/lang/Object -/
def k0 : Class := { plain "java/lang/Object" none with
  accessFlags := 33
  interfaces := #[]
  cf := some (fileOf pool0 8 #[] #[{ accessFlags := 1, nameIndex := 5, descriptorIndex := 6, attributes := #[] }] 33 0 #[] #[])
  fields := #[]
  methods := #[k0m0]
  instanceTypes := #[]
  staticTypes := #[]
  resolved := Array.replicate 124 none
  statics := none }

def pool1 : Array CpInfo := pool [(2, .class_ 4), (0, .nameAndType 5 6), (0, u "java/lang/Object"), (0, u "<init>"), (0, u "()V"), (2, .long 9223372036854775807), (1, .methodref 12 13), (0, .class_ 14), (0, .nameAndType 15 16), (0, u "java/lang/Math"), (0, u "max"), (0, u "(JJ)J"), (0, .long 9223372036854775806), (1, .class_ 20), (0, u "com/example/tripleshard/tripleshard/sparql/Query"), (0, .class_ 22), (0, u "java/util/ArrayList"), (0, .methodref 21 3), (0, .methodref 19 25), (0, .nameAndType 5 26), (0, u "(Ljava/util/List;Ljava/util/List;Ljava/util/List;ZLjava/util/List;JJ)V"), (0, .methodref 19 28), (0, .nameAndType 29 30), (0, u "sliceEnd"), (0, u "()J"), (0, .class_ 32), (0, u "com/example/tripleshard/tripleshard/sparql/QuerySliceEndPinLaw"), (2, u "law"), (0, u "(JJI)Z")] 3

def k1m0 : Method := { name := "<init>", desc := "()V", sig := { parameters := [], returnType := none }, accessFlags := 1, code := none }
def k1c1 : Code := { maxStack := 11, maxLocals := 16, code := code, exceptionTable := #[], attributes := #[] }
def k1m1 : Method := { name := "law", desc := "(JJI)Z", sig := { parameters := [.long, .long, .int], returnType := some .boolean }, accessFlags := 9, code := some k1c1 }
/-- com/example/tripleshard/tripleshard/sparql/QuerySliceEndPinLaw -/
def k1 : Class := { plain "com/example/tripleshard/tripleshard/sparql/QuerySliceEndPinLaw" (some 0) with
  accessFlags := 49
  interfaces := #[]
  cf := some (fileOf pool1 31 #[] #[{ accessFlags := 1, nameIndex := 5, descriptorIndex := 6, attributes := #[] }, { accessFlags := 9, nameIndex := 35, descriptorIndex := 36, attributes := #[] }] 49 2 #[] #[])
  fields := #[]
  methods := #[k1m0, k1m1]
  instanceTypes := #[]
  staticTypes := #[]
  resolved := Array.replicate 40 none
  statics := none }

def pool2 : Array CpInfo := pool [(1, .methodref 2 3), (0, .class_ 4), (0, .nameAndType 5 6), (0, u "java/lang/Object"), (0, u "<init>"), (0, u "()V"), (0, .class_ 8), (0, u "java/lang/Record")] 13

def k2c0 : Code := { maxStack := 1, maxLocals := 1, code := jdk_30_method_1_code, exceptionTable := #[], attributes := #[] }
def k2m0 : Method := { name := "<init>", desc := "()V", sig := { parameters := [], returnType := none }, accessFlags := 4, code := some k2c0 }
/-- java/lang/Record -/
def k2 : Class := { plain "java/lang/Record" (some 0) with
  accessFlags := 1057
  interfaces := #[]
  cf := some (fileOf pool2 7 #[] #[{ accessFlags := 4, nameIndex := 5, descriptorIndex := 6, attributes := #[] }] 1057 2 #[] #[])
  fields := #[]
  methods := #[k2m0]
  instanceTypes := #[]
  staticTypes := #[]
  resolved := Array.replicate 22 none
  statics := none }

def pool3 : Array CpInfo := pool [(1, .methodref 2 3), (0, .class_ 4), (0, .nameAndType 5 6), (0, u "java/lang/Record"), (0, u "<init>"), (0, u "()V"), (0, .fieldref 8 9), (0, .class_ 10), (0, .nameAndType 11 12), (0, u "com/example/tripleshard/tripleshard/sparql/Query"), (0, u "projection"), (0, u "Ljava/util/List;"), (0, .fieldref 8 14), (0, .nameAndType 15 12), (0, u "patterns"), (0, .fieldref 8 17), (0, .nameAndType 18 12), (0, u "filters"), (0, .fieldref 8 20), (0, .nameAndType 21 22), (0, u "distinct"), (0, u "Z"), (0, .fieldref 8 24), (0, .nameAndType 25 12), (0, u "orderBy"), (0, .fieldref 8 27), (0, .nameAndType 28 29), (0, u "offset"), (0, u "J"), (0, .fieldref 8 31), (0, .nameAndType 32 29), (0, u "limit"), (49, .long 9223372036854775807), (30, u "(Ljava/util/List;Ljava/util/List;Ljava/util/List;ZLjava/util/List;JJ)V"), (11, u "sliceEnd"), (0, u "()J")] 33

def k3c0 : Code := { maxStack := 3, maxLocals := 10, code := prog_81_method_1_code, exceptionTable := #[], attributes := #[] }
def k3m0 : Method := { name := "<init>", desc := "(Ljava/util/List;Ljava/util/List;Ljava/util/List;ZLjava/util/List;JJ)V", sig := { parameters := [(.object "java/util/List"), (.object "java/util/List"), (.object "java/util/List"), .boolean, (.object "java/util/List"), .long, .long], returnType := none }, accessFlags := 1, code := some k3c0 }
def k3c1 : Code := { maxStack := 4, maxLocals := 3, code := prog_81_method_5_code, exceptionTable := #[], attributes := #[] }
def k3m1 : Method := { name := "sliceEnd", desc := "()J", sig := { parameters := [], returnType := some .long }, accessFlags := 0, code := some k3c1 }
/-- com/example/tripleshard/tripleshard/sparql/Query -/
def k3 : Class := { plain "com/example/tripleshard/tripleshard/sparql/Query" (some 2) with
  accessFlags := 49
  interfaces := #[]
  cf := some (fileOf pool3 8 #[] #[{ accessFlags := 1, nameIndex := 5, descriptorIndex := 113, attributes := #[] }, { accessFlags := 0, nameIndex := 125, descriptorIndex := 126, attributes := #[] }] 49 2 #[] #[{ accessFlags := 18, nameIndex := 11, descriptorIndex := 12, attributes := #[] }, { accessFlags := 18, nameIndex := 15, descriptorIndex := 12, attributes := #[] }, { accessFlags := 18, nameIndex := 18, descriptorIndex := 12, attributes := #[] }, { accessFlags := 18, nameIndex := 21, descriptorIndex := 22, attributes := #[] }, { accessFlags := 18, nameIndex := 25, descriptorIndex := 12, attributes := #[] }, { accessFlags := 18, nameIndex := 28, descriptorIndex := 29, attributes := #[] }, { accessFlags := 18, nameIndex := 32, descriptorIndex := 29, attributes := #[] }])
  fields := #[{ name := "projection", type := (.object "java/util/List"), accessFlags := 18, slot := 0, constantValue := 0 }, { name := "patterns", type := (.object "java/util/List"), accessFlags := 18, slot := 1, constantValue := 0 }, { name := "filters", type := (.object "java/util/List"), accessFlags := 18, slot := 2, constantValue := 0 }, { name := "distinct", type := .boolean, accessFlags := 18, slot := 3, constantValue := 0 }, { name := "orderBy", type := (.object "java/util/List"), accessFlags := 18, slot := 4, constantValue := 0 }, { name := "offset", type := .long, accessFlags := 18, slot := 5, constantValue := 0 }, { name := "limit", type := .long, accessFlags := 18, slot := 6, constantValue := 0 }]
  methods := #[k3m0, k3m1]
  instanceTypes := #[(.object "java/util/List"), (.object "java/util/List"), (.object "java/util/List"), .boolean, (.object "java/util/List"), .long, .long]
  staticTypes := #[]
  resolved := Array.replicate 160 none
  statics := none }

def pool4 : Array CpInfo := pool [(8, .class_ 10), (1, u "java/lang/Iterable"), (24, .class_ 36), (0, u "java/lang/Object")] 25

/-- java/lang/Iterable -/
def k4 : Class := { plain "java/lang/Iterable" (some 0) with
  accessFlags := 1537
  interfaces := #[]
  cf := some (fileOf pool4 8 #[] #[] 1537 35 #[] #[])
  fields := #[]
  methods := #[]
  instanceTypes := #[]
  staticTypes := #[]
  resolved := Array.replicate 62 none
  statics := none }

def pool5 : Array CpInfo := pool [(10, .class_ 12), (1, u "java/util/Collection"), (47, .class_ 61), (0, u "java/lang/Object"), (0, .class_ 63), (0, u "java/lang/Iterable")] 51

/-- java/util/Collection -/
def k5 : Class := { plain "java/util/Collection" (some 0) with
  accessFlags := 1537
  interfaces := #[4]
  cf := some (fileOf pool5 10 #[] #[] 1537 60 #[62] #[])
  fields := #[]
  methods := #[]
  instanceTypes := #[]
  staticTypes := #[]
  resolved := Array.replicate 115 none
  statics := none }

def pool6 : Array CpInfo := pool [(1, .methodref 2 3), (0, .class_ 4), (0, .nameAndType 5 6), (0, u "java/lang/Object"), (0, u "<init>"), (0, u "()V"), (1, .class_ 10), (1, u "java/util/AbstractCollection"), (66, .class_ 78), (0, u "java/util/Collection")] 81

def k6c0 : Code := { maxStack := 1, maxLocals := 1, code := jdk_22_method_1_code, exceptionTable := #[], attributes := #[] }
def k6m0 : Method := { name := "<init>", desc := "()V", sig := { parameters := [], returnType := none }, accessFlags := 4, code := some k6c0 }
/-- java/util/AbstractCollection -/
def k6 : Class := { plain "java/util/AbstractCollection" (some 0) with
  accessFlags := 1057
  interfaces := #[5]
  cf := some (fileOf pool6 8 #[] #[{ accessFlags := 4, nameIndex := 5, descriptorIndex := 6, attributes := #[] }] 1057 2 #[77] #[])
  fields := #[]
  methods := #[k6m0]
  instanceTypes := #[]
  staticTypes := #[]
  resolved := Array.replicate 160 none
  statics := none }

def pool7 : Array CpInfo := pool [(8, .class_ 10), (1, u "java/util/SequencedCollection"), (15, .class_ 27), (0, u "java/lang/Object"), (0, .class_ 29), (0, u "java/util/Collection")] 27

/-- java/util/SequencedCollection -/
def k7 : Class := { plain "java/util/SequencedCollection" (some 0) with
  accessFlags := 1537
  interfaces := #[5]
  cf := some (fileOf pool7 8 #[] #[] 1537 26 #[28] #[])
  fields := #[]
  methods := #[]
  instanceTypes := #[]
  staticTypes := #[]
  resolved := Array.replicate 57 none
  statics := none }

def pool8 : Array CpInfo := pool [(8, .class_ 10), (1, u "java/util/List"), (92, .class_ 104), (0, u "java/lang/Object"), (15, .class_ 121), (0, u "java/util/SequencedCollection")] 129

/-- java/util/List -/
def k8 : Class := { plain "java/util/List" (some 0) with
  accessFlags := 1537
  interfaces := #[7]
  cf := some (fileOf pool8 8 #[] #[] 1537 103 #[120] #[])
  fields := #[]
  methods := #[]
  instanceTypes := #[]
  staticTypes := #[]
  resolved := Array.replicate 251 none
  statics := none }

def pool9 : Array CpInfo := pool [(1, .methodref 2 3), (0, .class_ 4), (0, .nameAndType 5 6), (0, u "java/util/AbstractCollection"), (0, u "<init>"), (0, u "()V"), (0, .fieldref 8 9), (0, .class_ 10), (0, .nameAndType 11 12), (0, u "java/util/AbstractList"), (0, u "modCount"), (0, u "I"), (64, .class_ 78), (0, u "java/util/AbstractList$Itr"), (3, .class_ 83), (0, u "java/util/AbstractList$ListItr"), (9, .class_ 94), (0, u "java/util/AbstractList$RandomAccessSubList"), (3, .class_ 99), (0, u "java/util/AbstractList$SubList"), (33, .class_ 134), (0, u "java/util/List"), (73, .class_ 209), (0, u "java/util/AbstractList$SubList$1"), (0, .class_ 211), (0, u "java/util/AbstractList$RandomAccessSpliterator")] 6

def k9c0 : Code := { maxStack := 2, maxLocals := 1, code := jdk_39_method_1_code, exceptionTable := #[], attributes := #[] }
def k9m0 : Method := { name := "<init>", desc := "()V", sig := { parameters := [], returnType := none }, accessFlags := 4, code := some k9c0 }
/-- java/util/AbstractList -/
def k9 : Class := { plain "java/util/AbstractList" (some 6) with
  accessFlags := 1057
  interfaces := #[8]
  cf := some (fileOf pool9 8 #[.nestMembers #[93, 98, 208, 210, 82, 77]] #[{ accessFlags := 4, nameIndex := 5, descriptorIndex := 6, attributes := #[] }] 1057 2 #[133] #[{ accessFlags := 132, nameIndex := 11, descriptorIndex := 12, attributes := #[] }])
  fields := #[{ name := "modCount", type := .int, accessFlags := 132, slot := 0, constantValue := 0 }]
  methods := #[k9m0]
  instanceTypes := #[.int]
  staticTypes := #[]
  resolved := Array.replicate 218 none
  statics := none }

def pool10 : Array CpInfo := pool [(1, .class_ 2), (0, u "java/util/RandomAccess"), (0, .class_ 4), (0, u "java/lang/Object")] 2

/-- java/util/RandomAccess -/
def k10 : Class := { plain "java/util/RandomAccess" (some 0) with
  accessFlags := 1537
  interfaces := #[]
  cf := some (fileOf pool10 1 #[] #[] 1537 3 #[] #[])
  fields := #[]
  methods := #[]
  instanceTypes := #[]
  staticTypes := #[]
  resolved := Array.replicate 7 none
  statics := none }

def pool11 : Array CpInfo := pool [(1, .class_ 2), (0, u "java/lang/Cloneable"), (0, .class_ 4), (0, u "java/lang/Object")] 2

/-- java/lang/Cloneable -/
def k11 : Class := { plain "java/lang/Cloneable" (some 0) with
  accessFlags := 1537
  interfaces := #[]
  cf := some (fileOf pool11 1 #[] #[] 1537 3 #[] #[])
  fields := #[]
  methods := #[]
  instanceTypes := #[]
  staticTypes := #[]
  resolved := Array.replicate 7 none
  statics := none }

def pool12 : Array CpInfo := pool [(1, .class_ 2), (0, u "java/io/Serializable"), (0, .class_ 4), (0, u "java/lang/Object")] 2

/-- java/io/Serializable -/
def k12 : Class := { plain "java/io/Serializable" (some 0) with
  accessFlags := 1537
  interfaces := #[]
  cf := some (fileOf pool12 1 #[] #[] 1537 3 #[] #[])
  fields := #[]
  methods := #[]
  instanceTypes := #[]
  staticTypes := #[]
  resolved := Array.replicate 7 none
  statics := none }

def pool13 : Array CpInfo := pool [(1, .methodref 2 3), (0, .class_ 4), (0, .nameAndType 5 6), (0, u "java/util/AbstractList"), (0, u "<init>"), (0, u "()V"), (2, .fieldref 10 11), (0, .class_ 12), (0, .nameAndType 13 14), (0, u "java/util/ArrayList"), (0, u "elementData"), (0, u "[Ljava/lang/Object;"), (2, u "EMPTY_ELEMENTDATA"), (21, .fieldref 10 40), (0, .nameAndType 41 14), (0, u "DEFAULTCAPACITY_EMPTY_ELEMENTDATA"), (8, u "size"), (0, u "I"), (96, .class_ 149), (0, u "java/util/List"), (112, .class_ 263), (0, u "java/util/ArrayList$ListItr"), (3, .class_ 268), (0, u "java/util/ArrayList$Itr"), (7, .class_ 277), (0, u "java/util/ArrayList$SubList"), (12, .class_ 291), (0, u "java/util/ArrayList$ArrayListSpliterator"), (37, .class_ 330), (0, u "java/util/RandomAccess"), (0, .class_ 332), (0, u "java/lang/Cloneable"), (0, .class_ 334), (0, u "java/io/Serializable"), (0, u "serialVersionUID"), (0, u "J"), (3, u "DEFAULT_CAPACITY"), (159, .class_ 501), (0, u "java/util/ArrayList$SubList$2"), (0, .class_ 503), (0, u "java/util/ArrayList$SubList$1")] 5

def k13c0 : Code := { maxStack := 2, maxLocals := 1, code := jdk_38_method_2_code, exceptionTable := #[], attributes := #[] }
def k13m0 : Method := { name := "<init>", desc := "()V", sig := { parameters := [], returnType := none }, accessFlags := 1, code := some k13c0 }
/-- java/util/ArrayList -/
def k13 : Class := { plain "java/util/ArrayList" (some 9) with
  accessFlags := 33
  interfaces := #[8, 10, 11, 12]
  cf := some (fileOf pool13 10 #[.nestMembers #[290, 276, 500, 502, 262, 267]] #[{ accessFlags := 1, nameIndex := 5, descriptorIndex := 6, attributes := #[] }] 33 2 #[148, 329, 331, 333] #[{ accessFlags := 26, nameIndex := 335, descriptorIndex := 336, attributes := #[] }, { accessFlags := 26, nameIndex := 340, descriptorIndex := 51, attributes := #[] }, { accessFlags := 26, nameIndex := 17, descriptorIndex := 14, attributes := #[] }, { accessFlags := 26, nameIndex := 41, descriptorIndex := 14, attributes := #[] }, { accessFlags := 128, nameIndex := 13, descriptorIndex := 14, attributes := #[] }, { accessFlags := 2, nameIndex := 50, descriptorIndex := 51, attributes := #[] }])
  fields := #[{ name := "serialVersionUID", type := .long, accessFlags := 26, slot := 0, constantValue := 0 }, { name := "DEFAULT_CAPACITY", type := .int, accessFlags := 26, slot := 1, constantValue := 0 }, { name := "EMPTY_ELEMENTDATA", type := (.array (.object "java/lang/Object")), accessFlags := 26, slot := 2, constantValue := 0 }, { name := "DEFAULTCAPACITY_EMPTY_ELEMENTDATA", type := (.array (.object "java/lang/Object")), accessFlags := 26, slot := 3, constantValue := 0 }, { name := "elementData", type := (.array (.object "java/lang/Object")), accessFlags := 128, slot := 1, constantValue := 0 }, { name := "size", type := .int, accessFlags := 2, slot := 2, constantValue := 0 }]
  methods := #[k13m0]
  instanceTypes := #[.int, (.array (.object "java/lang/Object")), .int]
  staticTypes := #[.long, .int, (.array (.object "java/lang/Object")), (.array (.object "java/lang/Object"))]
  resolved := Array.replicate 509 none
  statics := some 0 }

def pool14 : Array CpInfo := pool [(1, .class_ 2), (0, u "java/lang/Math"), (1, .class_ 6), (1, u "java/lang/Object"), (0, u "<init>"), (0, u "()V"), (89, .class_ 100), (1, u "java/lang/Math$RandomNumberGeneratorHolder"), (20, u "(JJ)J"), (50, u "negativeZeroFloatBits"), (0, u "J"), (2, u "negativeZeroDoubleBits"), (21, u "max"), (46, u "$assertionsDisabled"), (0, u "Z"), (91, u "twoToTheDoubleScaleDown"), (0, u "D"), (4, u "twoToTheDoubleScaleUp"), (9, u "E"), (3, u "PI"), (2, u "TAU"), (2, u "DEGREES_TO_RADIANS"), (0, u "RADIANS_TO_DEGREES")] 94

def k14m0 : Method := { name := "<init>", desc := "()V", sig := { parameters := [], returnType := none }, accessFlags := 2, code := none }
def k14c1 : Code := { maxStack := 4, maxLocals := 4, code := jdk_29_method_66_code, exceptionTable := #[], attributes := #[] }
def k14m1 : Method := { name := "max", desc := "(JJ)J", sig := { parameters := [.long, .long], returnType := some .long }, accessFlags := 9, code := some k14c1 }
/-- java/lang/Math -/
def k14 : Class := { plain "java/lang/Math" (some 0) with
  accessFlags := 49
  interfaces := #[]
  cf := some (fileOf pool14 1 #[.nestMembers #[98]] #[{ accessFlags := 2, nameIndex := 7, descriptorIndex := 8, attributes := #[] }, { accessFlags := 9, nameIndex := 198, descriptorIndex := 121, attributes := #[] }] 49 4 #[] #[{ accessFlags := 25, nameIndex := 354, descriptorIndex := 339, attributes := #[] }, { accessFlags := 25, nameIndex := 358, descriptorIndex := 339, attributes := #[] }, { accessFlags := 25, nameIndex := 361, descriptorIndex := 339, attributes := #[] }, { accessFlags := 26, nameIndex := 364, descriptorIndex := 339, attributes := #[] }, { accessFlags := 26, nameIndex := 365, descriptorIndex := 339, attributes := #[] }, { accessFlags := 26, nameIndex := 172, descriptorIndex := 173, attributes := #[] }, { accessFlags := 26, nameIndex := 176, descriptorIndex := 173, attributes := #[] }, { accessFlags := 8, nameIndex := 344, descriptorIndex := 339, attributes := #[] }, { accessFlags := 8, nameIndex := 338, descriptorIndex := 339, attributes := #[] }, { accessFlags := 4120, nameIndex := 245, descriptorIndex := 246, attributes := #[] }])
  fields := #[{ name := "E", type := .double, accessFlags := 25, slot := 0, constantValue := 0 }, { name := "PI", type := .double, accessFlags := 25, slot := 1, constantValue := 0 }, { name := "TAU", type := .double, accessFlags := 25, slot := 2, constantValue := 0 }, { name := "DEGREES_TO_RADIANS", type := .double, accessFlags := 26, slot := 3, constantValue := 0 }, { name := "RADIANS_TO_DEGREES", type := .double, accessFlags := 26, slot := 4, constantValue := 0 }, { name := "negativeZeroFloatBits", type := .long, accessFlags := 26, slot := 5, constantValue := 0 }, { name := "negativeZeroDoubleBits", type := .long, accessFlags := 26, slot := 6, constantValue := 0 }, { name := "twoToTheDoubleScaleUp", type := .double, accessFlags := 8, slot := 7, constantValue := 0 }, { name := "twoToTheDoubleScaleDown", type := .double, accessFlags := 8, slot := 8, constantValue := 0 }, { name := "$assertionsDisabled", type := .boolean, accessFlags := 4120, slot := 9, constantValue := 0 }]
  methods := #[k14m0, k14m1]
  instanceTypes := #[]
  staticTypes := #[.double, .double, .double, .double, .double, .long, .long, .double, .double, .boolean]
  resolved := Array.replicate 460 none
  statics := none }

/-- the primitive byte -/
def k15 : Class := { plain "byte" none with kind := .primitive 'B', accessFlags := 0x411 }
/-- [B -/
def k16 : Class := { plain "[B" (some 0) with kind := .array 15 .byte, interfaces := #[11, 12], accessFlags := 1041 }

/-- the primitive int -/
def k17 : Class := { plain "int" none with kind := .primitive 'I', accessFlags := 0x411 }
/-- [I -/
def k18 : Class := { plain "[I" (some 0) with kind := .array 17 .int, interfaces := #[11, 12], accessFlags := 1041 }

/-- [Ljava/lang/Object; -/
def k19 : Class := { plain "[Ljava/lang/Object;" (some 0) with kind := .array 0 (.object "java/lang/Object"), interfaces := #[11, 12], accessFlags := 1041 }

def heap : Heap := #[{ cls := 13, slots := #[.long 0, .int 0, .ref 1, .ref 2], vm := .statics 13 },
  { cls := 19, slots := #[], vm := .none },
  { cls := 19, slots := #[], vm := .none }]
def classes : Array Class := #[k0, k1, k2, k3, k4, k5, k6, k7, k8, k9, k10, k11, k12, k13, k14, k15, k16, k17, k18, k19]
def interned : List (Array UInt16 × Addr) := []
def slotsUsed : Nat := 4
def theMethod : MethodId := ⟨1, 1⟩
def args0 : Array Value := #[.long 5, .long 3, .int 3]
def aboutOver (below : List Frame) : State where
  vm := { classes := classes, interned := interned.toArray }
  heap := heap
  slotsUsed := slotsUsed
  threads := #[{ frames := .invoking theMethod args0 :: below }]
def below0 : List Frame := [.native { method := ⟨0, 0⟩, args := #[] }]
def about1 : State := aboutOver below0
def p0 : Program := .bare "" "" ""
def e0 : Env := launch0.env 0 0 0
theorem w_frames : about1.frames = Frame.invoking theMethod args0 :: below0 := rfl
set_option maxRecDepth 65536 in
theorem w_args : argsFit about1.vm theMethod args0 = true := by decide +kernel
set_option maxRecDepth 65536 in
theorem w_heap : heapFits about1 = true := by decide +kernel
set_option maxRecDepth 65536 in
theorem w_runnable : about1.curStatus? = some .runnable := by decide +kernel
set_option maxRecDepth 65536 in
theorem w_alone : about1.alone = true := by decide +kernel
set_option maxRecDepth 65536 in
theorem w_named : about1.methodNamed? x = some theMethod := by decide +kernel
set_option maxRecDepth 65536 in
theorem w_hears : about1.hears theMethod below0 = true := by decide +kernel
set_option maxRecDepth 65536 in
theorem w_ripe : about1.ripe theMethod args0 below0 = true := by decide +kernel
theorem w_running : about1.status = .running := rfl
set_option maxRecDepth 65536 in
theorem w_room : about1.hasRoom e0.platform room_1 = true :=
  launch0.hasRoom_least _ room_1 (by decide +kernel) (by decide +kernel) (by decide +kernel) (by decide +kernel) (by decide +kernel) (by decide +kernel)
theorem allAtoms_all (ts : List Jvm.Cond) (a : Array Jvm.Value) (st : Jvm.State) : (allAtoms ts).before a st = ts.all (fun c => c.before a st) := by
  induction ts with
  | nil => rfl
  | cons c t ih =>
    show (Jvm.Cond.and c (allAtoms t)).before a st = _
    rw [Jvm.Cond.before_and, ih, List.all_cons]
def words1 : List Jvm.Cond := Jvm.Cond.code x code maxLocals ret :: tables_1
/-- a 'code' word, met by the world's own term for the bytes: nothing is compared byte by byte -/
theorem code_word {y : MethodName} {bytes : ByteArray} {mx : Nat} {rt : Option FieldType} {a : Array Value} {s : State} {m : MethodId} {meth : Method} {c : Code} (h1 : s.methodNamed? y = some m) (h2 : s.vm.method? m = some meth) (h3 : meth.code = some c) (h4 : c.code = bytes)
    (h5 : (c.maxLocals == mx && c.exceptionTable.isEmpty && decide (c.maxStack ≤ mostOperands) && decide (meth.sig.returnType = rt) && !meth.locks && decide (parseMethodDescriptor y.desc = some meth.sig)) = true) : (Jvm.Cond.code y bytes mx rt).before a s = true := by
  simp only [Bool.and_eq_true, beq_iff_eq, Bool.not_eq_true', decide_eq_true_eq] at h5
  obtain ⟨⟨⟨⟨⟨g1, g2⟩, g3⟩, g4⟩, g5⟩, g6⟩ := h5
  simp [Cond.before, Cond.holds, Cond.value, h1, h2, h3, h4, g1, g2, g3, g4, g5, g6]
def isCode : Jvm.Cond → Bool
  | .code _ _ _ _ => true
  | _ => false
theorem all_split {L : List Jvm.Cond} {P : Jvm.Cond → Bool} (h1 : L.all (fun c => isCode c || P c) = true) (h2 : ∀ c ∈ L.filter isCode, P c = true) : L.all P = true := by
  refine List.all_eq_true.mpr fun c hc => ?_
  have h := List.all_eq_true.mp h1 c hc
  rcases Bool.eq_false_or_eq_true (isCode c) with hi | hi
  · exact h2 c (List.mem_filter.mpr ⟨hc, hi⟩)
  · simpa [hi] using h
set_option maxRecDepth 65536 in
theorem w_c0 : (Jvm.Cond.code x code maxLocals ret).before args0 about1 = true := code_word (m := ⟨1, 1⟩) (meth := k1m1) (c := k1c1) (by decide +kernel) rfl rfl rfl (by decide +kernel)
set_option maxRecDepth 65536 in
theorem w_c1 : (Jvm.Cond.code ({ cls := "java/util/ArrayList", name := "<init>", desc := "()V" } : Jvm.MethodName) jdk_38_method_2_code (1 : Nat) (Option.none : Option Jvm.ClassFile.FieldType)).before args0 about1 = true := code_word (m := ⟨13, 0⟩) (meth := k13m0) (c := k13c0) (by decide +kernel) rfl rfl rfl (by decide +kernel)
set_option maxRecDepth 65536 in
theorem w_c2 : (Jvm.Cond.code ({ cls := "java/util/AbstractList", name := "<init>", desc := "()V" } : Jvm.MethodName) jdk_39_method_1_code (1 : Nat) (Option.none : Option Jvm.ClassFile.FieldType)).before args0 about1 = true := code_word (m := ⟨9, 0⟩) (meth := k9m0) (c := k9c0) (by decide +kernel) rfl rfl rfl (by decide +kernel)
set_option maxRecDepth 65536 in
theorem w_c3 : (Jvm.Cond.code ({ cls := "java/util/AbstractCollection", name := "<init>", desc := "()V" } : Jvm.MethodName) jdk_22_method_1_code (1 : Nat) (Option.none : Option Jvm.ClassFile.FieldType)).before args0 about1 = true := code_word (m := ⟨6, 0⟩) (meth := k6m0) (c := k6c0) (by decide +kernel) rfl rfl rfl (by decide +kernel)
set_option maxRecDepth 65536 in
theorem w_c4 : (Jvm.Cond.code ({ cls := "java/lang/Object", name := "<init>", desc := "()V" } : Jvm.MethodName) object_method_1_code (1 : Nat) (Option.none : Option Jvm.ClassFile.FieldType)).before args0 about1 = true := code_word (m := ⟨0, 0⟩) (meth := k0m0) (c := k0c0) (by decide +kernel) rfl rfl rfl (by decide +kernel)
set_option maxRecDepth 65536 in
theorem w_c5 : (Jvm.Cond.code ({ cls := "com/example/tripleshard/tripleshard/sparql/Query", name := "<init>", desc := "(Ljava/util/List;Ljava/util/List;Ljava/util/List;ZLjava/util/List;JJ)V" } : Jvm.MethodName) prog_81_method_1_code (10 : Nat) (Option.none : Option Jvm.ClassFile.FieldType)).before args0 about1 = true := code_word (m := ⟨3, 0⟩) (meth := k3m0) (c := k3c0) (by decide +kernel) rfl rfl rfl (by decide +kernel)
set_option maxRecDepth 65536 in
theorem w_c6 : (Jvm.Cond.code ({ cls := "java/lang/Record", name := "<init>", desc := "()V" } : Jvm.MethodName) jdk_30_method_1_code (1 : Nat) (Option.none : Option Jvm.ClassFile.FieldType)).before args0 about1 = true := code_word (m := ⟨2, 0⟩) (meth := k2m0) (c := k2c0) (by decide +kernel) rfl rfl rfl (by decide +kernel)
set_option maxRecDepth 65536 in
theorem w_c7 : (Jvm.Cond.code ({ cls := "com/example/tripleshard/tripleshard/sparql/Query", name := "sliceEnd", desc := "()J" } : Jvm.MethodName) prog_81_method_5_code (3 : Nat) (Option.some Jvm.ClassFile.FieldType.long)).before args0 about1 = true := code_word (m := ⟨3, 1⟩) (meth := k3m1) (c := k3c1) (by decide +kernel) rfl rfl rfl (by decide +kernel)
set_option maxRecDepth 65536 in
theorem w_c8 : (Jvm.Cond.code ({ cls := "java/lang/Math", name := "max", desc := "(JJ)J" } : Jvm.MethodName) jdk_29_method_66_code (4 : Nat) (Option.some Jvm.ClassFile.FieldType.long)).before args0 about1 = true := code_word (m := ⟨14, 1⟩) (meth := k14m1) (c := k14c1) (by decide +kernel) rfl rfl rfl (by decide +kernel)
def codes1 : List Jvm.Cond := [Jvm.Cond.code x code maxLocals ret, Jvm.Cond.code ({ cls := "java/util/ArrayList", name := "<init>", desc := "()V" } : Jvm.MethodName) jdk_38_method_2_code (1 : Nat) (Option.none : Option Jvm.ClassFile.FieldType), Jvm.Cond.code ({ cls := "java/util/AbstractList", name := "<init>", desc := "()V" } : Jvm.MethodName) jdk_39_method_1_code (1 : Nat) (Option.none : Option Jvm.ClassFile.FieldType), Jvm.Cond.code ({ cls := "java/util/AbstractCollection", name := "<init>", desc := "()V" } : Jvm.MethodName) jdk_22_method_1_code (1 : Nat) (Option.none : Option Jvm.ClassFile.FieldType), Jvm.Cond.code ({ cls := "java/lang/Object", name := "<init>", desc := "()V" } : Jvm.MethodName) object_method_1_code (1 : Nat) (Option.none : Option Jvm.ClassFile.FieldType), Jvm.Cond.code ({ cls := "com/example/tripleshard/tripleshard/sparql/Query", name := "<init>", desc := "(Ljava/util/List;Ljava/util/List;Ljava/util/List;ZLjava/util/List;JJ)V" } : Jvm.MethodName) prog_81_method_1_code (10 : Nat) (Option.none : Option Jvm.ClassFile.FieldType), Jvm.Cond.code ({ cls := "java/lang/Record", name := "<init>", desc := "()V" } : Jvm.MethodName) jdk_30_method_1_code (1 : Nat) (Option.none : Option Jvm.ClassFile.FieldType), Jvm.Cond.code ({ cls := "com/example/tripleshard/tripleshard/sparql/Query", name := "sliceEnd", desc := "()J" } : Jvm.MethodName) prog_81_method_5_code (3 : Nat) (Option.some Jvm.ClassFile.FieldType.long), Jvm.Cond.code ({ cls := "java/lang/Math", name := "max", desc := "(JJ)J" } : Jvm.MethodName) jdk_29_method_66_code (4 : Nat) (Option.some Jvm.ClassFile.FieldType.long)]
set_option maxRecDepth 65536 in
theorem codes_eq : words1.filter isCode = codes1 := rfl
theorem w_codes : ∀ c ∈ words1.filter isCode, c.before args0 about1 = true := by
  rw [codes_eq]
  intro c hc
  simp only [codes1, List.mem_cons, List.not_mem_nil, or_false] at hc
  rcases hc with rfl | rfl | rfl | rfl | rfl | rfl | rfl | rfl | rfl
  · exact w_c0
  · exact w_c1
  · exact w_c2
  · exact w_c3
  · exact w_c4
  · exact w_c5
  · exact w_c6
  · exact w_c7
  · exact w_c8
set_option maxRecDepth 65536 in
theorem w_t1 : (words1.take 24).all (fun c => isCode c || c.before args0 about1) = true := by decide +kernel
set_option maxRecDepth 65536 in
theorem w_t2 : ((words1.drop 24).take 24).all (fun c => isCode c || c.before args0 about1) = true := by decide +kernel
set_option maxRecDepth 65536 in
theorem w_t3 : ((words1.drop 24).drop 24).all (fun c => isCode c || c.before args0 about1) = true := by decide +kernel
theorem w_tables : (allAtoms (Jvm.Cond.code x code maxLocals ret :: tables_1)).before args0 about1 = true := by
  rw [allAtoms_all]
  show words1.all (fun c => c.before args0 about1) = true
  refine all_split ?_ w_codes
  rw [← List.take_append_drop 24 words1, List.all_append, w_t1, ← List.take_append_drop 24 (words1.drop 24), List.all_append, w_t2, w_t3]
  rfl
set_option maxRecDepth 65536 in
theorem w_rest : rest_1_c.before args0 about1 = true := by decide +kernel
set_option maxRecDepth 65536 in
theorem w_case : (Jvm.Cond.and given_1 narrow_1).before args0 about1 = true := by decide +kernel
theorem w_applies : (headSpec (Jvm.Cond.code x code maxLocals ret :: tables_1) room_1).applies x e0.platform about1 = true :=
  (Spec.applies_iff w_frames).mpr ⟨w_running, w_runnable, w_alone, w_named, w_hears, w_ripe, w_room, w_tables⟩
theorem atStart : AtStart classFile x code maxLocals ret World_1 tables_1 room_1 Calls_1 rest_1 Pre_1 launch0 p0 e0 about1 theMethod args0 below0 :=
  ⟨lists_1, trivial, launch0.admits_env _ _ _, launch0.least_env, fairChoices_fair.cas, fairChoices_fair.clock, w_frames, w_args, w_heap, w_applies, trivial, w_rest, w_case⟩
end start1
theorem witness_1 : WitnessClaimed_1 := ⟨start1.p0, start1.e0, start1.about1, start1.theMethod, start1.args0, start1.below0, start1.atStart⟩
end Jvm.Pilot.@@N@@
