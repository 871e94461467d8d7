import JvmDerived
import JvmDerived.Pilot.@@N@@Statement
import JvmDerived.Pilot.@@N@@Code
set_option linter.unusedVariables false
set_option linter.unusedSimpArgs false
namespace Jvm.RoadKit
open Sem ClassFile Op Lib Jvm.Stand Jvm.Free Jvm.LawKit
section New
variable {p : Program} {l : Launch} {e : Env} {R : Room} {s : State} {m : MethodId} {args : Array Value} {below : List Frame} {meth : Method} {c : Code} {T : State} {locs : List Loc} {cells slots : Nat}
theorem retI (X : Stand p l e R s m args below meth c T locs cells slots) (hx : p.tables.exec = Jvm.exec) {pc : Nat} {Ls : Array Slot} {z : Int32} {rest : List Value} (hret : meth.sig.returnType = some .int) (hd : decode c.code pc = .ok (.ireturn, 1)) {fs : List Frame}
    (hl : ∀ (f : JFrame) (acts : List Action), f.method = m → f.locked = none → f.entered = [] → (doReturn e (T.setTop f) acts (some (.int z))).1 = T.setFrames fs) : Steps p.tables e below (T.setTop (mkF m pc Ls (.int z :: rest))) (T.setFrames fs) := by
  have hm' : T.vm.method? m = some meth := X.method'
  have hn : narrow .int (.int z) = .int z := rfl
  show Steps p.tables e below (T.setTop { method := m, pc := pc, locals := Ls, stack := _ :: rest, locked := none }) _
  jvm_step X.here [X.here.top, hx, hd, hm', hret, hn]
  first | (intro acts; rw [hl _ acts rfl rfl rfl]) | rw [hl _ _ rfl rfl rfl]
  exact Steps.refl _
end New
end Jvm.RoadKit
namespace Jvm.Pilot.@@N@@
open Jvm Jvm.ClassFile Sem Op Lib Jvm.Free Jvm.Stand Jvm.LawKit Jvm.RoadKit Bundle Jvm.Pilot.@@N@@.Jvm.D
/-- a boolean of the law's, as the int that the machine holds -/
def bI (P : Prop) [Decidable P] : Int32 := if P then 1 else 0
theorem bI_t {P : Prop} [Decidable P] (h : P) : bI P = (1 : Int32) := if_pos h
theorem bI_f {P : Prop} [Decidable P] (h : ¬ P) : bI P = (0 : Int32) := if_neg h
theorem bI_n {P : Prop} [Decidable P] (h : P) : ¬ (bI P = (0 : Int32)) := by rw [bI_t h]; decide
theorem bI_iff {P Q : Prop} [Decidable P] [Decidable Q] (h : P ↔ Q) : bI P = bI Q := by
  by_cases p : P
  · rw [bI_t p, bI_t (h.mp p)]
  · rw [bI_f p, bI_f fun q => p (h.mpr q)]
theorem bI_nar {P : Prop} [Decidable P] : nar .boolean (bI P) = bI P := by
  by_cases p : P
  · rw [bI_t p]; rfl
  · rw [bI_f p]; rfl
theorem own_mx {a b : Int64} : (if a < b then b else a) = a ↔ ¬ (a < b) := by
  by_cases h : a < b
  · rw [if_pos h]; exact ⟨fun e q => by rw [e] at q; rw [Int64.lt_iff_toInt_lt] at q; omega, fun q => absurd h q⟩
  · rw [if_neg h]; exact ⟨fun _ => h, fun _ => rfl⟩
theorem bI_and {P Q : Prop} [Decidable P] [Decidable Q] : bI P &&& bI Q = bI (P ∧ Q) := by
  by_cases p : P
  · by_cases q : Q
    · rw [bI_t p, bI_t q, bI_t ⟨p, q⟩]; rfl
    · rw [bI_t p, bI_f q, bI_f fun z => q z.2]; rfl
  · by_cases q : Q
    · rw [bI_f p, bI_t q, bI_f fun z => p z.1]; rfl
    · rw [bI_f p, bI_f q, bI_f fun z => p z.1]; rfl
theorem d2_0 : decode jdk_30_method_1_code 0 = .ok (.aload_n 0, 1) := by decide +kernel
theorem d2_1 : decode jdk_30_method_1_code 1 = .ok (.invokespecial 1, 3) := by decide +kernel
theorem d2_4 : decode jdk_30_method_1_code 4 = .ok (.return_, 1) := by decide +kernel
theorem pn_2 : plainName "java/lang/Record" = true := by first | (simp [plainName, overriddenIn]; done) | decide +kernel
theorem ef_2 (m : MethodId) (x0 : Addr) : entryFrame m #[(.ref x0)] 1 = mkF m 0 #[.val (.ref x0)] [] := by first | (simp [entryFrame, mkF, argsToLocals, Value.category]; done) | rfl
def Q2 (Z : State) (a2_0 : Addr) (h0 : Heap) (n0 : Nat) (v : Option Value) (h : Heap) (L : List Loc) : Prop := v = none ∧ Fr n0 L ∧ h = h0
set_option maxRecDepth 65536 in
set_option maxHeartbeats 40000000 in
theorem rm2 (l : Launch) (Z : State) (a0 : Array Value) (hw : ∀ d ∈ tables_1, d.before a0 Z = true) (ws : List Jvm.Cond) (a2_0 : Addr) (h0 : Heap) (n0 : Nat) (Z0 : n0 ≤ h0.size) :
    MetFree l (⟨"java/lang/Record", "<init>", "()V"⟩ : MethodName) (head1 (Jvm.Cond.code (⟨"java/lang/Record", "<init>", "()V"⟩ : MethodName) jdk_30_method_1_code 1 none :: ws) ({ frames := 1, cells := 0, slots := 0, locals := 12 } : Room)) (fun a U => a = #[(.ref a2_0)] ∧ Z.Warmed39 U.vm ∧ U.heap = h0) (fun _ _ _ _ _ => True) (fun _ U o U' => ∃ v L, o = .returned v ∧ Q2 Z a2_0 h0 n0 v U'.heap L ∧ FrameEnd U o U' L ({ frames := 1, cells := 0, slots := 0, locals := 12 } : Room).cells ({ frames := 1, cells := 0, slots := 0, locals := 12 } : Room).slots) := by
  refine MetFree.of_bodySF (plainFor_of_name pn_2) hisR ?_
  intro p e s m args below meth c s₁ Bd hml0 hP hK
  obtain ⟨rfl, hZ, hh⟩ := hP
  have hW : ∀ (i : Nat) (d : Jvm.Cond), tables_1[i]? = some d → d.before a0 Z = true := fun i d h => hw d (List.mem_of_getElem? h)
  have hx := Bd.exec
  have hby := Bd.bytes
  have hml : c.maxLocals = 1 := hml0
  have hown : s.vm.findClass "java/lang/Record" = some m.cls := findClass_of_methodNamed Bd.named
  have hnm := (name_of_methodNamed Bd.named Bd.method).1
  have X0 : Stand p l e ({ frames := 1, cells := 0, slots := 0, locals := 12 } : Room) s m #[(.ref a2_0)] below meth c s₁ [] 0 0 := Stand.of_body Bd
  have e0 : s₁.heap = h0 := by rw [← hh, Bd.state]; rfl
  have N0 := Fr.nil n0
  have pre0 : ∀ t, Steps p.tables e below (s₁.setTop (mkF m 0 #[.val (.ref a2_0)] [])) t → Steps p.tables e below (s₁.setTop (entryFrame m #[(.ref a2_0)] 1)) t := fun t k => castTop (ef_2 m a2_0) k
  obtain ⟨T1, X1, e1, st1⟩ := initO X0 hx hZ hown (hW 11 _ rfl) (hW 12 _ rfl) (hW 13 _ rfl) e0 (g := (mkF m 1 #[.val (.ref a2_0)] [(.ref a2_0)])) rfl (by rw [hml]; rfl) rfl (hb hby d2_1) (by decide) (W := 0) (by show 2 * 0 + _ ≤ _; exact Nat.le_of_eq rfl) (by decide)
  have pre2 : ∀ t, Steps p.tables e below (T1.setTop (mkF m 4 #[.val (.ref a2_0)] [])) t → Steps p.tables e below (s₁.setTop (entryFrame m #[(.ref a2_0)] 1)) t := fun t k => pre0 t (by
    show Steps p.tables e below (s₁.setTop (mkF m 0 #[.val (.ref a2_0)] [])) _
    refine XS.aloadN X0.here hx rfl (hb hby d2_0) rfl rfl ?_
    show Steps p.tables e below (s₁.setTop (mkF m 1 #[.val (.ref a2_0)] [(.ref a2_0)])) _
    refine st1 _ ?_
    exact k)
  obtain ⟨fs, hr, hrun, hended, hW, hsame⟩ := X1.leave (v := none) (fun _ => rfl)
  refine ⟨_, _, pre2 _ ?_, hrun, hended, _, _, rfl, ?_, ⟨_, rfl⟩, hW, hsame.mono (by decide) (by decide)⟩
  · show Steps p.tables e below (T1.setTop (mkF m 4 #[.val (.ref a2_0)] [])) _
    exact X1.returnOut hx Bd.returns (hb hby d2_4) hr
  · show Q2 Z a2_0 h0 n0 _ T1.heap _
    rw [e1]
    exact ⟨rfl, N0, rfl⟩
theorem pd_0 : parseMethodDescriptor "()V" = some ⟨[], none⟩ := by decide +kernel
theorem d1_0 : decode prog_61_method_1_code 0 = .ok (.aload_n 0, 1) := by decide +kernel
theorem d1_1 : decode prog_61_method_1_code 1 = .ok (.invokespecial 1, 3) := by decide +kernel
theorem d1_4 : decode prog_61_method_1_code 4 = .ok (.aload_n 0, 1) := by decide +kernel
theorem d1_5 : decode prog_61_method_1_code 5 = .ok (.lload_n 1, 1) := by decide +kernel
theorem d1_6 : decode prog_61_method_1_code 6 = .ok (.putfield 7, 3) := by decide +kernel
theorem d1_9 : decode prog_61_method_1_code 9 = .ok (.aload_n 0, 1) := by decide +kernel
theorem d1_10 : decode prog_61_method_1_code 10 = .ok (.lload_n 3, 1) := by decide +kernel
theorem d1_11 : decode prog_61_method_1_code 11 = .ok (.putfield 13, 3) := by decide +kernel
theorem d1_14 : decode prog_61_method_1_code 14 = .ok (.aload_n 0, 1) := by decide +kernel
theorem d1_15 : decode prog_61_method_1_code 15 = .ok (.lload 5, 2) := by decide +kernel
theorem d1_17 : decode prog_61_method_1_code 17 = .ok (.putfield 16, 3) := by decide +kernel
theorem d1_20 : decode prog_61_method_1_code 20 = .ok (.aload_n 0, 1) := by decide +kernel
theorem d1_21 : decode prog_61_method_1_code 21 = .ok (.lload 7, 2) := by decide +kernel
theorem d1_23 : decode prog_61_method_1_code 23 = .ok (.putfield 19, 3) := by decide +kernel
theorem d1_26 : decode prog_61_method_1_code 26 = .ok (.return_, 1) := by decide +kernel
theorem pn_1 : plainName "com/example/nearlane/nearlane/engine/Room" = true := by first | (simp [plainName, overriddenIn]; done) | decide +kernel
theorem ef_1 (m : MethodId) (x0 : Addr) (x1 : Int64) (x2 : Int64) (x3 : Int64) (x4 : Int64) : entryFrame m #[(.ref x0), (.long x1), (.long x2), (.long x3), (.long x4)] 9 = mkF m 0 #[.val (.ref x0), .val (.long x1), .second, .val (.long x2), .second, .val (.long x3), .second, .val (.long x4), .second] [] := by first | (simp [entryFrame, mkF, argsToLocals, Value.category]; done) | rfl
def Q1 (Z : State) (a1_0 : Addr) (q1_1 : Int64) (q1_2 : Int64) (q1_3 : Int64) (q1_4 : Int64) (w1_cpuMilli_a1_0 : Int64) (w1_memoryMib_a1_0 : Int64) (w1_deviceMilli_a1_0 : Int64) (w1_wholeDevices_a1_0 : Int64) (h0 : Heap) (n0 : Nat) (v : Option Value) (h : Heap) (L : List Loc) : Prop := v = none ∧ Fr n0 L ∧ Keep h0 h [a1_0] ∧ Exa Z h a1_0 "com/example/nearlane/nearlane/engine/Room" ∧ Fld Z h a1_0 "com/example/nearlane/nearlane/engine/Room" "cpuMilli" "J" (.long q1_1) ∧ Fld Z h a1_0 "com/example/nearlane/nearlane/engine/Room" "memoryMib" "J" (.long q1_2) ∧ Fld Z h a1_0 "com/example/nearlane/nearlane/engine/Room" "deviceMilli" "J" (.long q1_3) ∧ Fld Z h a1_0 "com/example/nearlane/nearlane/engine/Room" "wholeDevices" "J" (.long q1_4)
set_option maxRecDepth 65536 in
set_option maxHeartbeats 40000000 in
theorem rm1 (l : Launch) (Z : State) (a0 : Array Value) (hw : ∀ d ∈ tables_1, d.before a0 Z = true) (ws : List Jvm.Cond) (a1_0 : Addr) (q1_1 : Int64) (q1_2 : Int64) (q1_3 : Int64) (q1_4 : Int64) (w1_cpuMilli_a1_0 : Int64) (w1_memoryMib_a1_0 : Int64) (w1_deviceMilli_a1_0 : Int64) (w1_wholeDevices_a1_0 : Int64) (h0 : Heap) (n0 : Nat) (Z0 : n0 ≤ h0.size) (E_a1_0 : Exa Z h0 a1_0 "com/example/nearlane/nearlane/engine/Room") (F_cpuMilli_a1_0 : Fld Z h0 a1_0 "com/example/nearlane/nearlane/engine/Room" "cpuMilli" "J" (.long w1_cpuMilli_a1_0)) (F_memoryMib_a1_0 : Fld Z h0 a1_0 "com/example/nearlane/nearlane/engine/Room" "memoryMib" "J" (.long w1_memoryMib_a1_0)) (F_deviceMilli_a1_0 : Fld Z h0 a1_0 "com/example/nearlane/nearlane/engine/Room" "deviceMilli" "J" (.long w1_deviceMilli_a1_0)) (F_wholeDevices_a1_0 : Fld Z h0 a1_0 "com/example/nearlane/nearlane/engine/Room" "wholeDevices" "J" (.long w1_wholeDevices_a1_0)) (g_a1_0 : n0 ≤ a1_0) :
    MetFree l (⟨"com/example/nearlane/nearlane/engine/Room", "<init>", "(JJJJ)V"⟩ : MethodName) (head1 (Jvm.Cond.code (⟨"com/example/nearlane/nearlane/engine/Room", "<init>", "(JJJJ)V"⟩ : MethodName) prog_61_method_1_code 9 none :: ws) ({ frames := 2, cells := 0, slots := 0, locals := 24 } : Room)) (fun a U => a = #[(.ref a1_0), (.long q1_1), (.long q1_2), (.long q1_3), (.long q1_4)] ∧ Z.Warmed39 U.vm ∧ U.heap = h0) (fun _ _ _ _ _ => True) (fun _ U o U' => ∃ v L, o = .returned v ∧ Q1 Z a1_0 q1_1 q1_2 q1_3 q1_4 w1_cpuMilli_a1_0 w1_memoryMib_a1_0 w1_deviceMilli_a1_0 w1_wholeDevices_a1_0 h0 n0 v U'.heap L ∧ FrameEnd U o U' L ({ frames := 2, cells := 0, slots := 0, locals := 24 } : Room).cells ({ frames := 2, cells := 0, slots := 0, locals := 24 } : Room).slots) := by
  refine MetFree.of_bodySF (plainFor_of_name pn_1) hisR ?_
  intro p e s m args below meth c s₁ Bd hml0 hP hK
  obtain ⟨rfl, hZ, hh⟩ := hP
  have hW : ∀ (i : Nat) (d : Jvm.Cond), tables_1[i]? = some d → d.before a0 Z = true := fun i d h => hw d (List.mem_of_getElem? h)
  have hx := Bd.exec
  have hby := Bd.bytes
  have hml : c.maxLocals = 9 := hml0
  have hown : s.vm.findClass "com/example/nearlane/nearlane/engine/Room" = some m.cls := findClass_of_methodNamed Bd.named
  have hnm := (name_of_methodNamed Bd.named Bd.method).1
  have X0 : Stand p l e ({ frames := 2, cells := 0, slots := 0, locals := 24 } : Room) s m #[(.ref a1_0), (.long q1_1), (.long q1_2), (.long q1_3), (.long q1_4)] below meth c s₁ [] 0 0 := Stand.of_body Bd
  have e0 : s₁.heap = h0 := by rw [← hh, Bd.state]; rfl
  have N0 := Fr.nil n0
  have pre0 : ∀ t, Steps p.tables e below (s₁.setTop (mkF m 0 #[.val (.ref a1_0), .val (.long q1_1), .second, .val (.long q1_2), .second, .val (.long q1_3), .second, .val (.long q1_4), .second] [])) t → Steps p.tables e below (s₁.setTop (entryFrame m #[(.ref a1_0), (.long q1_1), (.long q1_2), (.long q1_3), (.long q1_4)] 9)) t := fun t k => castTop (ef_1 m a1_0 q1_1 q1_2 q1_3 q1_4) k
  obtain ⟨_, _, ⟨T1, L1, k1, n1⟩, -, X1, ⟨Lc1, hQ1, l1, y1, z1⟩, st1⟩ := X0.specialBack hx (y := (⟨"java/lang/Record", "<init>", "()V"⟩ : MethodName)) rfl hown (mvT hZ (hW 6 _ rfl)) (mvT hZ (hW 7 _ rfl)) (mvT hZ (hW 10 _ rfl)) (by decide) (backOf (W := 0) (rm2 l Z a0 hw [] a1_0 h0 n0 Z0 ) hZ (hW 10 _ rfl) (hW 9 _ rfl) (by decide) (by decide)) (g := (mkF m 1 #[.val (.ref a1_0), .val (.long q1_1), .second, .val (.long q1_2), .second, .val (.long q1_3), .second, .val (.long q1_4), .second] [(.ref a1_0)])) rfl (by rw [hml]; rfl) (Steps.refl _) (a := a1_0) (argsL := []) (rest := []) (lenOf pd_0 rfl) rfl (by show 2 * 0 + _ ≤ _; exact Nat.le_of_eq rfl) (hb hby d1_1) (fun _ _ => ⟨rfl, e0, (by decide : 0 + 0 ≤ _), (by decide : 0 + 0 ≤ _)⟩)
  dsimp only [Pt.U, Pt.locs, Pt.cells, Pt.slots] at X1 l1 y1 z1 st1 hQ1
  subst l1 y1 z1
  obtain ⟨rfl, N1q, e1⟩ := hQ1
  have N2 := Fr.app N0 N1q
  have pre3 : ∀ t, Steps p.tables e below (T1.setTop (mkF m 4 #[.val (.ref a1_0), .val (.long q1_1), .second, .val (.long q1_2), .second, .val (.long q1_3), .second, .val (.long q1_4), .second] [])) t → Steps p.tables e below (s₁.setTop (entryFrame m #[(.ref a1_0), (.long q1_1), (.long q1_2), (.long q1_3), (.long q1_4)] 9)) t := fun t k => pre0 t (by
    show Steps p.tables e below (s₁.setTop (mkF m 0 #[.val (.ref a1_0), .val (.long q1_1), .second, .val (.long q1_2), .second, .val (.long q1_3), .second, .val (.long q1_4), .second] [])) _
    refine XS.aloadN X0.here hx rfl (hb hby d1_0) rfl rfl ?_
    show Steps p.tables e below (s₁.setTop (mkF m 1 #[.val (.ref a1_0), .val (.long q1_1), .second, .val (.long q1_2), .second, .val (.long q1_3), .second, .val (.long q1_4), .second] [(.ref a1_0)])) _
    refine st1.trans ?_
    exact k)
  obtain ⟨T4, h4, X4, e4, W4, st4⟩ := putF X1 hx hZ hown (host := "") (Or.inl (hW 14 _ rfl)) Via.refl e1 F_cpuMilli_a1_0 E_a1_0 (Or.inr ⟨(hW 15 _ rfl), rfl, hnm⟩) (hW 1 _ rfl) (ty := .long) (by decide) rfl rfl (g := (mkF m 6 #[.val (.ref a1_0), .val (.long q1_1), .second, .val (.long q1_2), .second, .val (.long q1_3), .second, .val (.long q1_4), .second] [(.long q1_1), (.ref a1_0)])) rfl rfl (hb hby d1_6)
  have pre5 : ∀ t, Steps p.tables e below (T4.setTop (mkF m 9 #[.val (.ref a1_0), .val (.long q1_1), .second, .val (.long q1_2), .second, .val (.long q1_3), .second, .val (.long q1_4), .second] [])) t → Steps p.tables e below (s₁.setTop (entryFrame m #[(.ref a1_0), (.long q1_1), (.long q1_2), (.long q1_3), (.long q1_4)] 9)) t := fun t k => pre3 t (by
    show Steps p.tables e below (T1.setTop (mkF m 4 #[.val (.ref a1_0), .val (.long q1_1), .second, .val (.long q1_2), .second, .val (.long q1_3), .second, .val (.long q1_4), .second] [])) _
    refine XS.aloadN X1.here hx rfl (hb hby d1_4) rfl rfl ?_
    show Steps p.tables e below (T1.setTop (mkF m 5 #[.val (.ref a1_0), .val (.long q1_1), .second, .val (.long q1_2), .second, .val (.long q1_3), .second, .val (.long q1_4), .second] [(.ref a1_0)])) _
    refine XS.lloadN X1.here hx rfl (hb hby d1_5) rfl ?_
    show Steps p.tables e below (T1.setTop (mkF m 6 #[.val (.ref a1_0), .val (.long q1_1), .second, .val (.long q1_2), .second, .val (.long q1_3), .second, .val (.long q1_4), .second] [(.long q1_1), (.ref a1_0)])) _
    refine st4 _ ?_
    exact k)
  have f6 := E_a1_0.wr W4
  have f7 := F_memoryMib_a1_0.other W4 (Or.inr (slot_ne (Or.inr (hW 17 _ rfl)) (Or.inr (hW 15 _ rfl)) (by decide) (t := .long) (t' := .long) (by decide) (by decide)))
  have f8 := F_deviceMilli_a1_0.other W4 (Or.inr (slot_ne (Or.inr (hW 19 _ rfl)) (Or.inr (hW 15 _ rfl)) (by decide) (t := .long) (t' := .long) (by decide) (by decide)))
  have f9 := F_wholeDevices_a1_0.other W4 (Or.inr (slot_ne (Or.inr (hW 21 _ rfl)) (Or.inr (hW 15 _ rfl)) (by decide) (t := .long) (t' := .long) (by decide) (by decide)))
  have z10 := Nat.le_trans Z0 (Keep.of_wr W4).1
  have k11 := (Keep.refl h0 [a1_0]).wr W4 (Or.inl (List.mem_of_getElem? (i := 0) rfl))
  have f12 := F_cpuMilli_a1_0.same W4
  have N13 := Fr.snoc X4 N2 g_a1_0
  obtain ⟨T14, h14, X14, e14, W14, st14⟩ := putF X4 hx hZ hown (host := "") (Or.inl (hW 16 _ rfl)) Via.refl e4 f7 f6 (Or.inr ⟨(hW 17 _ rfl), rfl, hnm⟩) (hW 1 _ rfl) (ty := .long) (by decide) rfl rfl (g := (mkF m 11 #[.val (.ref a1_0), .val (.long q1_1), .second, .val (.long q1_2), .second, .val (.long q1_3), .second, .val (.long q1_4), .second] [(.long q1_2), (.ref a1_0)])) rfl rfl (hb hby d1_11)
  have pre15 : ∀ t, Steps p.tables e below (T14.setTop (mkF m 14 #[.val (.ref a1_0), .val (.long q1_1), .second, .val (.long q1_2), .second, .val (.long q1_3), .second, .val (.long q1_4), .second] [])) t → Steps p.tables e below (s₁.setTop (entryFrame m #[(.ref a1_0), (.long q1_1), (.long q1_2), (.long q1_3), (.long q1_4)] 9)) t := fun t k => pre5 t (by
    show Steps p.tables e below (T4.setTop (mkF m 9 #[.val (.ref a1_0), .val (.long q1_1), .second, .val (.long q1_2), .second, .val (.long q1_3), .second, .val (.long q1_4), .second] [])) _
    refine XS.aloadN X4.here hx rfl (hb hby d1_9) rfl rfl ?_
    show Steps p.tables e below (T4.setTop (mkF m 10 #[.val (.ref a1_0), .val (.long q1_1), .second, .val (.long q1_2), .second, .val (.long q1_3), .second, .val (.long q1_4), .second] [(.ref a1_0)])) _
    refine XS.lloadN X4.here hx rfl (hb hby d1_10) rfl ?_
    show Steps p.tables e below (T4.setTop (mkF m 11 #[.val (.ref a1_0), .val (.long q1_1), .second, .val (.long q1_2), .second, .val (.long q1_3), .second, .val (.long q1_4), .second] [(.long q1_2), (.ref a1_0)])) _
    refine st14 _ ?_
    exact k)
  have f16 := f6.wr W14
  have f17 := f8.other W14 (Or.inr (slot_ne (Or.inr (hW 19 _ rfl)) (Or.inr (hW 17 _ rfl)) (by decide) (t := .long) (t' := .long) (by decide) (by decide)))
  have f18 := f9.other W14 (Or.inr (slot_ne (Or.inr (hW 21 _ rfl)) (Or.inr (hW 17 _ rfl)) (by decide) (t := .long) (t' := .long) (by decide) (by decide)))
  have f19 := f12.other W14 (Or.inr (slot_ne (Or.inr (hW 15 _ rfl)) (Or.inr (hW 17 _ rfl)) (by decide) (t := .long) (t' := .long) (by decide) (by decide)))
  have z20 := Nat.le_trans z10 (Keep.of_wr W14).1
  have k21 := k11.wr W14 (Or.inl (List.mem_of_getElem? (i := 0) rfl))
  have f22 := f7.same W14
  have N23 := Fr.snoc X14 N13 g_a1_0
  obtain ⟨T24, h24, X24, e24, W24, st24⟩ := putF X14 hx hZ hown (host := "") (Or.inl (hW 18 _ rfl)) Via.refl e14 f17 f16 (Or.inr ⟨(hW 19 _ rfl), rfl, hnm⟩) (hW 1 _ rfl) (ty := .long) (by decide) rfl rfl (g := (mkF m 17 #[.val (.ref a1_0), .val (.long q1_1), .second, .val (.long q1_2), .second, .val (.long q1_3), .second, .val (.long q1_4), .second] [(.long q1_3), (.ref a1_0)])) rfl rfl (hb hby d1_17)
  have pre25 : ∀ t, Steps p.tables e below (T24.setTop (mkF m 20 #[.val (.ref a1_0), .val (.long q1_1), .second, .val (.long q1_2), .second, .val (.long q1_3), .second, .val (.long q1_4), .second] [])) t → Steps p.tables e below (s₁.setTop (entryFrame m #[(.ref a1_0), (.long q1_1), (.long q1_2), (.long q1_3), (.long q1_4)] 9)) t := fun t k => pre15 t (by
    show Steps p.tables e below (T14.setTop (mkF m 14 #[.val (.ref a1_0), .val (.long q1_1), .second, .val (.long q1_2), .second, .val (.long q1_3), .second, .val (.long q1_4), .second] [])) _
    refine XS.aloadN X14.here hx rfl (hb hby d1_14) rfl rfl ?_
    show Steps p.tables e below (T14.setTop (mkF m 15 #[.val (.ref a1_0), .val (.long q1_1), .second, .val (.long q1_2), .second, .val (.long q1_3), .second, .val (.long q1_4), .second] [(.ref a1_0)])) _
    refine XS.lload X14.here hx rfl (hb hby d1_15) rfl ?_
    show Steps p.tables e below (T14.setTop (mkF m 17 #[.val (.ref a1_0), .val (.long q1_1), .second, .val (.long q1_2), .second, .val (.long q1_3), .second, .val (.long q1_4), .second] [(.long q1_3), (.ref a1_0)])) _
    refine st24 _ ?_
    exact k)
  have f26 := f16.wr W24
  have f27 := f18.other W24 (Or.inr (slot_ne (Or.inr (hW 21 _ rfl)) (Or.inr (hW 19 _ rfl)) (by decide) (t := .long) (t' := .long) (by decide) (by decide)))
  have f28 := f19.other W24 (Or.inr (slot_ne (Or.inr (hW 15 _ rfl)) (Or.inr (hW 19 _ rfl)) (by decide) (t := .long) (t' := .long) (by decide) (by decide)))
  have f29 := f22.other W24 (Or.inr (slot_ne (Or.inr (hW 17 _ rfl)) (Or.inr (hW 19 _ rfl)) (by decide) (t := .long) (t' := .long) (by decide) (by decide)))
  have z30 := Nat.le_trans z20 (Keep.of_wr W24).1
  have k31 := k21.wr W24 (Or.inl (List.mem_of_getElem? (i := 0) rfl))
  have f32 := f17.same W24
  have N33 := Fr.snoc X24 N23 g_a1_0
  obtain ⟨T34, h34, X34, e34, W34, st34⟩ := putF X24 hx hZ hown (host := "") (Or.inl (hW 20 _ rfl)) Via.refl e24 f27 f26 (Or.inr ⟨(hW 21 _ rfl), rfl, hnm⟩) (hW 1 _ rfl) (ty := .long) (by decide) rfl rfl (g := (mkF m 23 #[.val (.ref a1_0), .val (.long q1_1), .second, .val (.long q1_2), .second, .val (.long q1_3), .second, .val (.long q1_4), .second] [(.long q1_4), (.ref a1_0)])) rfl rfl (hb hby d1_23)
  have pre35 : ∀ t, Steps p.tables e below (T34.setTop (mkF m 26 #[.val (.ref a1_0), .val (.long q1_1), .second, .val (.long q1_2), .second, .val (.long q1_3), .second, .val (.long q1_4), .second] [])) t → Steps p.tables e below (s₁.setTop (entryFrame m #[(.ref a1_0), (.long q1_1), (.long q1_2), (.long q1_3), (.long q1_4)] 9)) t := fun t k => pre25 t (by
    show Steps p.tables e below (T24.setTop (mkF m 20 #[.val (.ref a1_0), .val (.long q1_1), .second, .val (.long q1_2), .second, .val (.long q1_3), .second, .val (.long q1_4), .second] [])) _
    refine XS.aloadN X24.here hx rfl (hb hby d1_20) rfl rfl ?_
    show Steps p.tables e below (T24.setTop (mkF m 21 #[.val (.ref a1_0), .val (.long q1_1), .second, .val (.long q1_2), .second, .val (.long q1_3), .second, .val (.long q1_4), .second] [(.ref a1_0)])) _
    refine XS.lload X24.here hx rfl (hb hby d1_21) rfl ?_
    show Steps p.tables e below (T24.setTop (mkF m 23 #[.val (.ref a1_0), .val (.long q1_1), .second, .val (.long q1_2), .second, .val (.long q1_3), .second, .val (.long q1_4), .second] [(.long q1_4), (.ref a1_0)])) _
    refine st34 _ ?_
    exact k)
  have f36 := f26.wr W34
  have f37 := f28.other W34 (Or.inr (slot_ne (Or.inr (hW 15 _ rfl)) (Or.inr (hW 21 _ rfl)) (by decide) (t := .long) (t' := .long) (by decide) (by decide)))
  have f38 := f29.other W34 (Or.inr (slot_ne (Or.inr (hW 17 _ rfl)) (Or.inr (hW 21 _ rfl)) (by decide) (t := .long) (t' := .long) (by decide) (by decide)))
  have f39 := f32.other W34 (Or.inr (slot_ne (Or.inr (hW 19 _ rfl)) (Or.inr (hW 21 _ rfl)) (by decide) (t := .long) (t' := .long) (by decide) (by decide)))
  have z40 := Nat.le_trans z30 (Keep.of_wr W34).1
  have k41 := k31.wr W34 (Or.inl (List.mem_of_getElem? (i := 0) rfl))
  have f42 := f27.same W34
  have N43 := Fr.snoc X34 N33 g_a1_0
  obtain ⟨fs, hr, hrun, hended, hW, hsame⟩ := X34.leave (v := none) (fun _ => rfl)
  refine ⟨_, _, pre35 _ ?_, hrun, hended, _, _, rfl, ?_, ⟨_, rfl⟩, hW, hsame.mono (by decide) (by decide)⟩
  · show Steps p.tables e below (T34.setTop (mkF m 26 #[.val (.ref a1_0), .val (.long q1_1), .second, .val (.long q1_2), .second, .val (.long q1_3), .second, .val (.long q1_4), .second] [])) _
    exact X34.returnOut hx Bd.returns (hb hby d1_26) hr
  · show Q1 Z a1_0 q1_1 q1_2 q1_3 q1_4 w1_cpuMilli_a1_0 w1_memoryMib_a1_0 w1_deviceMilli_a1_0 w1_wholeDevices_a1_0 h0 n0 _ T34.heap _
    rw [e34]
    exact ⟨rfl, N43, k41, f36, f37, f38, f39, f42⟩
theorem d5_0 : decode jdk_29_method_66_code 0 = .ok (.lload_n 0, 1) := by decide +kernel
theorem d5_1 : decode jdk_29_method_66_code 1 = .ok (.lload_n 2, 1) := by decide +kernel
theorem d5_2 : decode jdk_29_method_66_code 2 = .ok (.lcmp, 1) := by decide +kernel
theorem d5_3 : decode jdk_29_method_66_code 3 = .ok (.ifCond .lt 7, 3) := by decide +kernel
theorem d5_6 : decode jdk_29_method_66_code 6 = .ok (.lload_n 0, 1) := by decide +kernel
theorem d5_7 : decode jdk_29_method_66_code 7 = .ok (.goto 4, 3) := by decide +kernel
theorem d5_10 : decode jdk_29_method_66_code 10 = .ok (.lload_n 2, 1) := by decide +kernel
theorem d5_11 : decode jdk_29_method_66_code 11 = .ok (.lreturn, 1) := by decide +kernel
theorem ef_5 (m : MethodId) (x0 : Int64) (x1 : Int64) : entryFrame m #[(.long x0), (.long x1)] 4 = mkF m 0 #[.val (.long x0), .second, .val (.long x1), .second] [] := by first | (simp [entryFrame, mkF, argsToLocals, Value.category]; done) | rfl
def Q5 (Z : State) (q5_0 : Int64) (q5_1 : Int64) (h0 : Heap) (n0 : Nat) (v : Option Value) (h : Heap) (L : List Loc) : Prop := v = some (.long (if q5_0 < q5_1 then q5_1 else q5_0)) ∧ Fr n0 L ∧ h = h0
set_option maxRecDepth 65536 in
set_option maxHeartbeats 40000000 in
theorem rm5 (l : Launch) (Z : State) (a0 : Array Value) (hw : ∀ d ∈ tables_1, d.before a0 Z = true) (ws : List Jvm.Cond) (q5_0 : Int64) (q5_1 : Int64) (h0 : Heap) (n0 : Nat) (Z0 : n0 ≤ h0.size) :
    MetFree l (⟨"java/lang/Math", "max", "(JJ)J"⟩ : MethodName) (head1 (Jvm.Cond.code (⟨"java/lang/Math", "max", "(JJ)J"⟩ : MethodName) jdk_29_method_66_code 4 (some .long) :: ws) ({ frames := 0, cells := 0, slots := 0, locals := 0 } : Room)) (fun a U => a = #[(.long q5_0), (.long q5_1)] ∧ Z.Warmed39 U.vm ∧ U.heap = h0) (fun _ _ _ _ _ => True) (fun _ U o U' => ∃ v L, o = .returned v ∧ Q5 Z q5_0 q5_1 h0 n0 v U'.heap L ∧ FrameEnd U o U' L ({ frames := 0, cells := 0, slots := 0, locals := 0 } : Room).cells ({ frames := 0, cells := 0, slots := 0, locals := 0 } : Room).slots) := by
  refine MetFree.of_bodySF (Jvm.Free.JP.mathPlain rfl (by decide +kernel)) hisR ?_
  intro p e s m args below meth c s₁ Bd hml0 hP hK
  obtain ⟨rfl, hZ, hh⟩ := hP
  have hW : ∀ (i : Nat) (d : Jvm.Cond), tables_1[i]? = some d → d.before a0 Z = true := fun i d h => hw d (List.mem_of_getElem? h)
  have hx := Bd.exec
  have hby := Bd.bytes
  have hml : c.maxLocals = 4 := hml0
  have hown : s.vm.findClass "java/lang/Math" = some m.cls := findClass_of_methodNamed Bd.named
  have hnm := (name_of_methodNamed Bd.named Bd.method).1
  have X0 : Stand p l e ({ frames := 0, cells := 0, slots := 0, locals := 0 } : Room) s m #[(.long q5_0), (.long q5_1)] below meth c s₁ [] 0 0 := Stand.of_body Bd
  have e0 : s₁.heap = h0 := by rw [← hh, Bd.state]; rfl
  have N0 := Fr.nil n0
  have pre0 : ∀ t, Steps p.tables e below (s₁.setTop (mkF m 0 #[.val (.long q5_0), .second, .val (.long q5_1), .second] [])) t → Steps p.tables e below (s₁.setTop (entryFrame m #[(.long q5_0), (.long q5_1)] 4)) t := fun t k => castTop (ef_5 m q5_0 q5_1) k
  have pre2 : ∀ t, Steps p.tables e below (s₁.setTop (mkF m 3 #[.val (.long q5_0), .second, .val (.long q5_1), .second] [(.int (lcmpW q5_0 q5_1))])) t → Steps p.tables e below (s₁.setTop (entryFrame m #[(.long q5_0), (.long q5_1)] 4)) t := fun t k => pre0 t (by
    show Steps p.tables e below (s₁.setTop (mkF m 0 #[.val (.long q5_0), .second, .val (.long q5_1), .second] [])) _
    refine XS.lloadN X0.here hx rfl (hb hby d5_0) rfl ?_
    show Steps p.tables e below (s₁.setTop (mkF m 1 #[.val (.long q5_0), .second, .val (.long q5_1), .second] [(.long q5_0)])) _
    refine XS.lloadN X0.here hx rfl (hb hby d5_1) rfl ?_
    show Steps p.tables e below (s₁.setTop (mkF m 2 #[.val (.long q5_0), .second, .val (.long q5_1), .second] [(.long q5_1), (.long q5_0)])) _
    refine XS.lcmp X0.here hx rfl (hb hby d5_2) rfl ?_
    exact k)
  have pre3 : ∀ t, Steps p.tables e below (s₁.setTop (mkF m 11 #[.val (.long q5_0), .second, .val (.long q5_1), .second] [(.long (if q5_0 < q5_1 then q5_1 else q5_0))])) t → Steps p.tables e below (s₁.setTop (entryFrame m #[(.long q5_0), (.long q5_1)] 4)) t := fun t k => pre2 t (by
    by_cases hc1 : q5_0 < q5_1
    · show Steps p.tables e below (s₁.setTop (mkF m 3 #[.val (.long q5_0), .second, .val (.long q5_1), .second] [(.int (lcmpW q5_0 q5_1))])) _
      refine XS.ifYes X0.here hx rfl (pc0 := 3) (pc' := 10) rfl (hb hby d5_3) rfl ((if0 _ _).trans (tlt ((lw_lt _ _).mpr hc1)).1) (by decide) (by decide) ?_
      show Steps p.tables e below (s₁.setTop (mkF m 10 #[.val (.long q5_0), .second, .val (.long q5_1), .second] [])) _
      refine XS.lloadN X0.here hx rfl (hb hby d5_10) rfl ?_
      have q4 : (if q5_0 < q5_1 then q5_1 else q5_0) = q5_1 := (if_pos hc1)
      exact castTop (g := (mkF m 11 #[.val (.long q5_0), .second, .val (.long q5_1), .second] [(.long q5_1)])) (g' := (mkF m 11 #[.val (.long q5_0), .second, .val (.long q5_1), .second] [(.long (if q5_0 < q5_1 then q5_1 else q5_0))])) (by simp only [q4]) k
    · show Steps p.tables e below (s₁.setTop (mkF m 3 #[.val (.long q5_0), .second, .val (.long q5_1), .second] [(.int (lcmpW q5_0 q5_1))])) _
      refine XS.ifNo X0.here hx rfl (hb hby d5_3) rfl ((if0 _ _).trans (flt (fun q => hc1 ((lw_lt _ _).mp q))).1) ?_
      show Steps p.tables e below (s₁.setTop (mkF m 6 #[.val (.long q5_0), .second, .val (.long q5_1), .second] [])) _
      refine XS.lloadN X0.here hx rfl (hb hby d5_6) rfl ?_
      show Steps p.tables e below (s₁.setTop (mkF m 7 #[.val (.long q5_0), .second, .val (.long q5_1), .second] [(.long q5_0)])) _
      refine XS.goto X0.here hx rfl (pc0 := 7) (pc' := 11) rfl (hb hby d5_7) (by decide) (by decide) ?_
      have q5 : (if q5_0 < q5_1 then q5_1 else q5_0) = q5_0 := (if_neg hc1)
      exact castTop (g := (mkF m 11 #[.val (.long q5_0), .second, .val (.long q5_1), .second] [(.long q5_0)])) (g' := (mkF m 11 #[.val (.long q5_0), .second, .val (.long q5_1), .second] [(.long (if q5_0 < q5_1 then q5_1 else q5_0))])) (by simp only [q5]) k)
  obtain ⟨fs, hr, hrun, hended, hW, hsame⟩ := X0.leave (v := some (.long (if q5_0 < q5_1 then q5_1 else q5_0))) (fun h => by rw [Bd.returns] at h; cases h)
  refine ⟨_, _, pre3 _ ?_, hrun, hended, _, _, rfl, ?_, ⟨_, rfl⟩, hW, hsame.mono (by decide) (by decide)⟩
  · show Steps p.tables e below (s₁.setTop (mkF m 11 #[.val (.long q5_0), .second, .val (.long q5_1), .second] [(.long (if q5_0 < q5_1 then q5_1 else q5_0))])) _
    jvm_step X0.here [X0.here.top, hx, (hb hby d5_11), X0.method', Bd.returns, narrow]
    first | (intro acts; rw [hr _ acts rfl rfl rfl]) | rw [hr _ _ rfl rfl rfl]
    exact Steps.refl _
  · show Q5 Z q5_0 q5_1 h0 n0 _ s₁.heap _
    rw [e0]
    exact ⟨rfl, N0, rfl⟩
theorem pd_1 : parseMethodDescriptor "(JJ)J" = some ⟨[.long, .long], some .long⟩ := by decide +kernel
theorem d4_0 : decode method_3_code 0 = .ok (.lload_n 0, 1) := by decide +kernel
theorem d4_1 : decode method_3_code 1 = .ok (.lload_n 2, 1) := by decide +kernel
theorem d4_2 : decode method_3_code 2 = .ok (.invokestatic 22, 3) := by decide +kernel
theorem d4_5 : decode method_3_code 5 = .ok (.lload_n 0, 1) := by decide +kernel
theorem d4_6 : decode method_3_code 6 = .ok (.lcmp, 1) := by decide +kernel
theorem d4_7 : decode method_3_code 7 = .ok (.ifCond .ne 7, 3) := by decide +kernel
theorem d4_10 : decode method_3_code 10 = .ok (.iconst 1, 1) := by decide +kernel
theorem d4_11 : decode method_3_code 11 = .ok (.goto 4, 3) := by decide +kernel
theorem d4_14 : decode method_3_code 14 = .ok (.iconst 0, 1) := by decide +kernel
theorem d4_15 : decode method_3_code 15 = .ok (.ireturn, 1) := by decide +kernel
theorem pn_4 : plainName "com/example/nearlane/nearlane/engine/RoomHoldsPinLaw" = true := by first | (simp [plainName, overriddenIn]; done) | decide +kernel
theorem ef_4 (m : MethodId) (x0 : Int64) (x1 : Int64) : entryFrame m #[(.long x0), (.long x1)] 4 = mkF m 0 #[.val (.long x0), .second, .val (.long x1), .second] [] := by first | (simp [entryFrame, mkF, argsToLocals, Value.category]; done) | rfl
def Q4 (Z : State) (q4_0 : Int64) (q4_1 : Int64) (h0 : Heap) (n0 : Nat) (v : Option Value) (h : Heap) (L : List Loc) : Prop := v = some (.int (bI (¬ (q4_0 < q4_1)))) ∧ Fr n0 L ∧ h = h0
set_option maxRecDepth 65536 in
set_option maxHeartbeats 40000000 in
theorem rm4 (l : Launch) (Z : State) (a0 : Array Value) (hw : ∀ d ∈ tables_1, d.before a0 Z = true) (ws : List Jvm.Cond) (q4_0 : Int64) (q4_1 : Int64) (h0 : Heap) (n0 : Nat) (Z0 : n0 ≤ h0.size) :
    MetFree l (⟨"com/example/nearlane/nearlane/engine/RoomHoldsPinLaw", "atLeast", "(JJ)Z"⟩ : MethodName) (head1 (Jvm.Cond.code (⟨"com/example/nearlane/nearlane/engine/RoomHoldsPinLaw", "atLeast", "(JJ)Z"⟩ : MethodName) method_3_code 4 (some .boolean) :: ws) ({ frames := 1, cells := 0, slots := 0, locals := 15 } : Room)) (fun a U => a = #[(.long q4_0), (.long q4_1)] ∧ Z.Warmed39 U.vm ∧ U.heap = h0) (fun _ _ _ _ _ => True) (fun _ U o U' => ∃ v L, o = .returned v ∧ Q4 Z q4_0 q4_1 h0 n0 v U'.heap L ∧ FrameEnd U o U' L ({ frames := 1, cells := 0, slots := 0, locals := 15 } : Room).cells ({ frames := 1, cells := 0, slots := 0, locals := 15 } : Room).slots) := by
  refine MetFree.of_bodySF (plainFor_of_name pn_4) hisR ?_
  intro p e s m args below meth c s₁ Bd hml0 hP hK
  obtain ⟨rfl, hZ, hh⟩ := hP
  have hW : ∀ (i : Nat) (d : Jvm.Cond), tables_1[i]? = some d → d.before a0 Z = true := fun i d h => hw d (List.mem_of_getElem? h)
  have hx := Bd.exec
  have hby := Bd.bytes
  have hml : c.maxLocals = 4 := hml0
  have hown : s.vm.findClass "com/example/nearlane/nearlane/engine/RoomHoldsPinLaw" = some m.cls := findClass_of_methodNamed Bd.named
  have hnm := (name_of_methodNamed Bd.named Bd.method).1
  have X0 : Stand p l e ({ frames := 1, cells := 0, slots := 0, locals := 15 } : Room) s m #[(.long q4_0), (.long q4_1)] below meth c s₁ [] 0 0 := Stand.of_body Bd
  have e0 : s₁.heap = h0 := by rw [← hh, Bd.state]; rfl
  have N0 := Fr.nil n0
  have pre0 : ∀ t, Steps p.tables e below (s₁.setTop (mkF m 0 #[.val (.long q4_0), .second, .val (.long q4_1), .second] [])) t → Steps p.tables e below (s₁.setTop (entryFrame m #[(.long q4_0), (.long q4_1)] 4)) t := fun t k => castTop (ef_4 m q4_0 q4_1) k
  obtain ⟨_, _, ⟨T1, L1, k1, n1⟩, -, X1, ⟨Lc1, hQ1, l1, y1, z1⟩, st1⟩ := Jvm.LawKit.callS X0 hx (y := (⟨"java/lang/Math", "max", "(JJ)J"⟩ : MethodName)) hown (mvT hZ (hW 26 _ rfl)) (mvT hZ (hW 27 _ rfl)) (mvT hZ (hW 28 _ rfl)) (mvT hZ (hW 29 _ rfl)) (by decide) (backOf (W := 0) (rm5 l Z a0 hw [] q4_0 q4_1 h0 n0 Z0 ) hZ (hW 29 _ rfl) (hW 28 _ rfl) (by decide) (by decide)) (g := (mkF m 2 #[.val (.long q4_0), .second, .val (.long q4_1), .second] [(.long q4_1), (.long q4_0)])) rfl (by rw [hml]; rfl) (argsL := [(.long q4_0), (.long q4_1)]) (rest := []) (lenOf pd_1 rfl) rfl (by show 2 * 0 + _ ≤ _; exact Nat.le_of_eq rfl) (hb hby d4_2) (fun _ _ => ⟨rfl, e0, (by decide : 0 + 0 ≤ _), (by decide : 0 + 0 ≤ _)⟩)
  dsimp only [Pt.U, Pt.locs, Pt.cells, Pt.slots] at X1 l1 y1 z1 st1 hQ1
  subst l1 y1 z1
  obtain ⟨rfl, N1q, e1⟩ := hQ1
  have N2 := Fr.app N0 N1q
  have pre3 : ∀ t, Steps p.tables e below (T1.setTop (mkF m 5 #[.val (.long q4_0), .second, .val (.long q4_1), .second] [(.long (if q4_0 < q4_1 then q4_1 else q4_0))])) t → Steps p.tables e below (s₁.setTop (entryFrame m #[(.long q4_0), (.long q4_1)] 4)) t := fun t k => pre0 t (by
    show Steps p.tables e below (s₁.setTop (mkF m 0 #[.val (.long q4_0), .second, .val (.long q4_1), .second] [])) _
    refine XS.lloadN X0.here hx rfl (hb hby d4_0) rfl ?_
    show Steps p.tables e below (s₁.setTop (mkF m 1 #[.val (.long q4_0), .second, .val (.long q4_1), .second] [(.long q4_0)])) _
    refine XS.lloadN X0.here hx rfl (hb hby d4_1) rfl ?_
    show Steps p.tables e below (s₁.setTop (mkF m 2 #[.val (.long q4_0), .second, .val (.long q4_1), .second] [(.long q4_1), (.long q4_0)])) _
    refine st1 _ ?_
    exact k)
  by_cases hc4 : (if q4_0 < q4_1 then q4_1 else q4_0) = q4_0
  · obtain ⟨fs, hr, hrun, hended, hW, hsame⟩ := X1.leave (v := some (.int (1 : Int32))) (fun h => by rw [Bd.returns] at h; cases h)
    refine ⟨_, _, pre3 _ ?_, hrun, hended, _, _, rfl, ?_, ⟨_, rfl⟩, hW, hsame.mono (by decide) (by decide)⟩
    · show Steps p.tables e below (T1.setTop (mkF m 5 #[.val (.long q4_0), .second, .val (.long q4_1), .second] [(.long (if q4_0 < q4_1 then q4_1 else q4_0))])) _
      refine XS.lloadN X1.here hx rfl (hb hby d4_5) rfl ?_
      show Steps p.tables e below (T1.setTop (mkF m 6 #[.val (.long q4_0), .second, .val (.long q4_1), .second] [(.long q4_0), (.long (if q4_0 < q4_1 then q4_1 else q4_0))])) _
      refine XS.lcmp X1.here hx rfl (hb hby d4_6) rfl ?_
      show Steps p.tables e below (T1.setTop (mkF m 7 #[.val (.long q4_0), .second, .val (.long q4_1), .second] [(.int (lcmpW (if q4_0 < q4_1 then q4_1 else q4_0) q4_0))])) _
      refine XS.ifNo X1.here hx rfl (hb hby d4_7) rfl ((if0 _ _).trans (teq ((lw_eq _ _).mpr hc4)).2) ?_
      show Steps p.tables e below (T1.setTop (mkF m 10 #[.val (.long q4_0), .second, .val (.long q4_1), .second] [])) _
      refine XS.iconst X1.here hx rfl (hb hby d4_10) ?_
      show Steps p.tables e below (T1.setTop (mkF m 11 #[.val (.long q4_0), .second, .val (.long q4_1), .second] [(.int (1 : Int32))])) _
      refine XS.goto X1.here hx rfl (pc0 := 11) (pc' := 15) rfl (hb hby d4_11) (by decide) (by decide) ?_
      show Steps p.tables e below (T1.setTop (mkF m 15 #[.val (.long q4_0), .second, .val (.long q4_1), .second] [(.int (1 : Int32))])) _
      exact retN X1 hx (t := .boolean) Bd.returns (by simp) (hb hby d4_15) hr
    · show Q4 Z q4_0 q4_1 h0 n0 _ T1.heap _
      rw [e1]
      exact ⟨(congrArg (fun z => some (Value.int z)) ((bI_t (own_mx.mp hc4)).symm : (1 : Int32) = (bI (¬ (q4_0 < q4_1))))), N2, rfl⟩
  · obtain ⟨fs, hr, hrun, hended, hW, hsame⟩ := X1.leave (v := some (.int (0 : Int32))) (fun h => by rw [Bd.returns] at h; cases h)
    refine ⟨_, _, pre3 _ ?_, hrun, hended, _, _, rfl, ?_, ⟨_, rfl⟩, hW, hsame.mono (by decide) (by decide)⟩
    · show Steps p.tables e below (T1.setTop (mkF m 5 #[.val (.long q4_0), .second, .val (.long q4_1), .second] [(.long (if q4_0 < q4_1 then q4_1 else q4_0))])) _
      refine XS.lloadN X1.here hx rfl (hb hby d4_5) rfl ?_
      show Steps p.tables e below (T1.setTop (mkF m 6 #[.val (.long q4_0), .second, .val (.long q4_1), .second] [(.long q4_0), (.long (if q4_0 < q4_1 then q4_1 else q4_0))])) _
      refine XS.lcmp X1.here hx rfl (hb hby d4_6) rfl ?_
      show Steps p.tables e below (T1.setTop (mkF m 7 #[.val (.long q4_0), .second, .val (.long q4_1), .second] [(.int (lcmpW (if q4_0 < q4_1 then q4_1 else q4_0) q4_0))])) _
      refine XS.ifYes X1.here hx rfl (pc0 := 7) (pc' := 14) rfl (hb hby d4_7) rfl ((if0 _ _).trans (feq (fun q => hc4 ((lw_eq _ _).mp q))).2) (by decide) (by decide) ?_
      show Steps p.tables e below (T1.setTop (mkF m 14 #[.val (.long q4_0), .second, .val (.long q4_1), .second] [])) _
      refine XS.iconst X1.here hx rfl (hb hby d4_14) ?_
      show Steps p.tables e below (T1.setTop (mkF m 15 #[.val (.long q4_0), .second, .val (.long q4_1), .second] [(.int (0 : Int32))])) _
      exact retN X1 hx (t := .boolean) Bd.returns (by simp) (hb hby d4_15) hr
    · show Q4 Z q4_0 q4_1 h0 n0 _ T1.heap _
      rw [e1]
      exact ⟨(congrArg (fun z => some (Value.int z)) ((bI_f (fun q => hc4 (own_mx.mpr q))).symm : (0 : Int32) = (bI (¬ (q4_0 < q4_1))))), N2, rfl⟩
theorem d6_0 : decode prog_61_method_4_code 0 = .ok (.aload_n 0, 1) := by decide +kernel
theorem d6_1 : decode prog_61_method_4_code 1 = .ok (.getfield 7, 3) := by decide +kernel
theorem d6_4 : decode prog_61_method_4_code 4 = .ok (.aload_n 1, 1) := by decide +kernel
theorem d6_5 : decode prog_61_method_4_code 5 = .ok (.getfield 7, 3) := by decide +kernel
theorem d6_8 : decode prog_61_method_4_code 8 = .ok (.lcmp, 1) := by decide +kernel
theorem d6_9 : decode prog_61_method_4_code 9 = .ok (.ifCond .lt 43, 3) := by decide +kernel
theorem d6_12 : decode prog_61_method_4_code 12 = .ok (.aload_n 0, 1) := by decide +kernel
theorem d6_13 : decode prog_61_method_4_code 13 = .ok (.getfield 13, 3) := by decide +kernel
theorem d6_16 : decode prog_61_method_4_code 16 = .ok (.aload_n 1, 1) := by decide +kernel
theorem d6_17 : decode prog_61_method_4_code 17 = .ok (.getfield 13, 3) := by decide +kernel
theorem d6_20 : decode prog_61_method_4_code 20 = .ok (.lcmp, 1) := by decide +kernel
theorem d6_21 : decode prog_61_method_4_code 21 = .ok (.ifCond .lt 31, 3) := by decide +kernel
theorem d6_24 : decode prog_61_method_4_code 24 = .ok (.aload_n 0, 1) := by decide +kernel
theorem d6_25 : decode prog_61_method_4_code 25 = .ok (.getfield 16, 3) := by decide +kernel
theorem d6_28 : decode prog_61_method_4_code 28 = .ok (.aload_n 1, 1) := by decide +kernel
theorem d6_29 : decode prog_61_method_4_code 29 = .ok (.getfield 16, 3) := by decide +kernel
theorem d6_32 : decode prog_61_method_4_code 32 = .ok (.lcmp, 1) := by decide +kernel
theorem d6_33 : decode prog_61_method_4_code 33 = .ok (.ifCond .lt 19, 3) := by decide +kernel
theorem d6_36 : decode prog_61_method_4_code 36 = .ok (.aload_n 0, 1) := by decide +kernel
theorem d6_37 : decode prog_61_method_4_code 37 = .ok (.getfield 19, 3) := by decide +kernel
theorem d6_40 : decode prog_61_method_4_code 40 = .ok (.aload_n 1, 1) := by decide +kernel
theorem d6_41 : decode prog_61_method_4_code 41 = .ok (.getfield 19, 3) := by decide +kernel
theorem d6_44 : decode prog_61_method_4_code 44 = .ok (.lcmp, 1) := by decide +kernel
theorem d6_45 : decode prog_61_method_4_code 45 = .ok (.ifCond .lt 7, 3) := by decide +kernel
theorem d6_48 : decode prog_61_method_4_code 48 = .ok (.iconst 1, 1) := by decide +kernel
theorem d6_49 : decode prog_61_method_4_code 49 = .ok (.goto 4, 3) := by decide +kernel
theorem d6_52 : decode prog_61_method_4_code 52 = .ok (.iconst 0, 1) := by decide +kernel
theorem d6_53 : decode prog_61_method_4_code 53 = .ok (.ireturn, 1) := by decide +kernel
theorem pn_6 : plainName "com/example/nearlane/nearlane/engine/Room" = true := by first | (simp [plainName, overriddenIn]; done) | decide +kernel
theorem ef_6 (m : MethodId) (x0 : Addr) (x1 : Addr) : entryFrame m #[(.ref x0), (.ref x1)] 2 = mkF m 0 #[.val (.ref x0), .val (.ref x1)] [] := by first | (simp [entryFrame, mkF, argsToLocals, Value.category]; done) | rfl
def Q6 (Z : State) (a6_0 : Addr) (a6_1 : Addr) (w6_cpuMilli_a6_0 : Int64) (w6_cpuMilli_a6_1 : Int64) (w6_memoryMib_a6_0 : Int64) (w6_memoryMib_a6_1 : Int64) (w6_deviceMilli_a6_0 : Int64) (w6_deviceMilli_a6_1 : Int64) (w6_wholeDevices_a6_0 : Int64) (w6_wholeDevices_a6_1 : Int64) (h0 : Heap) (n0 : Nat) (v : Option Value) (h : Heap) (L : List Loc) : Prop := v = some (.int (bI (¬ (w6_cpuMilli_a6_0 < w6_cpuMilli_a6_1) ∧ (¬ (w6_memoryMib_a6_0 < w6_memoryMib_a6_1) ∧ (¬ (w6_deviceMilli_a6_0 < w6_deviceMilli_a6_1) ∧ (¬ (w6_wholeDevices_a6_0 < w6_wholeDevices_a6_1))))))) ∧ Fr n0 L ∧ h = h0
set_option maxRecDepth 65536 in
set_option maxHeartbeats 40000000 in
theorem rm6 (l : Launch) (Z : State) (a0 : Array Value) (hw : ∀ d ∈ tables_1, d.before a0 Z = true) (ws : List Jvm.Cond) (a6_0 : Addr) (a6_1 : Addr) (w6_cpuMilli_a6_0 : Int64) (w6_cpuMilli_a6_1 : Int64) (w6_memoryMib_a6_0 : Int64) (w6_memoryMib_a6_1 : Int64) (w6_deviceMilli_a6_0 : Int64) (w6_deviceMilli_a6_1 : Int64) (w6_wholeDevices_a6_0 : Int64) (w6_wholeDevices_a6_1 : Int64) (h0 : Heap) (n0 : Nat) (Z0 : n0 ≤ h0.size) (F_cpuMilli_a6_0 : Fld Z h0 a6_0 "com/example/nearlane/nearlane/engine/Room" "cpuMilli" "J" (.long w6_cpuMilli_a6_0)) (F_cpuMilli_a6_1 : Fld Z h0 a6_1 "com/example/nearlane/nearlane/engine/Room" "cpuMilli" "J" (.long w6_cpuMilli_a6_1)) (F_memoryMib_a6_0 : Fld Z h0 a6_0 "com/example/nearlane/nearlane/engine/Room" "memoryMib" "J" (.long w6_memoryMib_a6_0)) (F_memoryMib_a6_1 : Fld Z h0 a6_1 "com/example/nearlane/nearlane/engine/Room" "memoryMib" "J" (.long w6_memoryMib_a6_1)) (F_deviceMilli_a6_0 : Fld Z h0 a6_0 "com/example/nearlane/nearlane/engine/Room" "deviceMilli" "J" (.long w6_deviceMilli_a6_0)) (F_deviceMilli_a6_1 : Fld Z h0 a6_1 "com/example/nearlane/nearlane/engine/Room" "deviceMilli" "J" (.long w6_deviceMilli_a6_1)) (F_wholeDevices_a6_0 : Fld Z h0 a6_0 "com/example/nearlane/nearlane/engine/Room" "wholeDevices" "J" (.long w6_wholeDevices_a6_0)) (F_wholeDevices_a6_1 : Fld Z h0 a6_1 "com/example/nearlane/nearlane/engine/Room" "wholeDevices" "J" (.long w6_wholeDevices_a6_1)) :
    MetFree l (⟨"com/example/nearlane/nearlane/engine/Room", "holds", "(Lcom/example/nearlane/nearlane/engine/Room;)Z"⟩ : MethodName) (head1 (Jvm.Cond.code (⟨"com/example/nearlane/nearlane/engine/Room", "holds", "(Lcom/example/nearlane/nearlane/engine/Room;)Z"⟩ : MethodName) prog_61_method_4_code 2 (some .boolean) :: ws) ({ frames := 0, cells := 0, slots := 0, locals := 0 } : Room)) (fun a U => a = #[(.ref a6_0), (.ref a6_1)] ∧ Z.Warmed39 U.vm ∧ U.heap = h0) (fun _ _ _ _ _ => True) (fun _ U o U' => ∃ v L, o = .returned v ∧ Q6 Z a6_0 a6_1 w6_cpuMilli_a6_0 w6_cpuMilli_a6_1 w6_memoryMib_a6_0 w6_memoryMib_a6_1 w6_deviceMilli_a6_0 w6_deviceMilli_a6_1 w6_wholeDevices_a6_0 w6_wholeDevices_a6_1 h0 n0 v U'.heap L ∧ FrameEnd U o U' L ({ frames := 0, cells := 0, slots := 0, locals := 0 } : Room).cells ({ frames := 0, cells := 0, slots := 0, locals := 0 } : Room).slots) := by
  refine MetFree.of_bodySF (plainFor_of_name pn_6) hisR ?_
  intro p e s m args below meth c s₁ Bd hml0 hP hK
  obtain ⟨rfl, hZ, hh⟩ := hP
  have hW : ∀ (i : Nat) (d : Jvm.Cond), tables_1[i]? = some d → d.before a0 Z = true := fun i d h => hw d (List.mem_of_getElem? h)
  have hx := Bd.exec
  have hby := Bd.bytes
  have hml : c.maxLocals = 2 := hml0
  have hown : s.vm.findClass "com/example/nearlane/nearlane/engine/Room" = some m.cls := findClass_of_methodNamed Bd.named
  have hnm := (name_of_methodNamed Bd.named Bd.method).1
  have X0 : Stand p l e ({ frames := 0, cells := 0, slots := 0, locals := 0 } : Room) s m #[(.ref a6_0), (.ref a6_1)] below meth c s₁ [] 0 0 := Stand.of_body Bd
  have e0 : s₁.heap = h0 := by rw [← hh, Bd.state]; rfl
  have N0 := Fr.nil n0
  have pre0 : ∀ t, Steps p.tables e below (s₁.setTop (mkF m 0 #[.val (.ref a6_0), .val (.ref a6_1)] [])) t → Steps p.tables e below (s₁.setTop (entryFrame m #[(.ref a6_0), (.ref a6_1)] 2)) t := fun t k => castTop (ef_6 m a6_0 a6_1) k
  obtain ⟨T1, X1, e1, st1⟩ := getF X0 hx hZ hown (host := "") (Or.inl (hW 14 _ rfl)) Via.refl e0 F_cpuMilli_a6_0 (g := (mkF m 1 #[.val (.ref a6_0), .val (.ref a6_1)] [(.ref a6_0)])) rfl rfl (hb hby d6_1)
  have pre2 : ∀ t, Steps p.tables e below (T1.setTop (mkF m 4 #[.val (.ref a6_0), .val (.ref a6_1)] [(.long w6_cpuMilli_a6_0)])) t → Steps p.tables e below (s₁.setTop (entryFrame m #[(.ref a6_0), (.ref a6_1)] 2)) t := fun t k => pre0 t (by
    show Steps p.tables e below (s₁.setTop (mkF m 0 #[.val (.ref a6_0), .val (.ref a6_1)] [])) _
    refine XS.aloadN X0.here hx rfl (hb hby d6_0) rfl rfl ?_
    show Steps p.tables e below (s₁.setTop (mkF m 1 #[.val (.ref a6_0), .val (.ref a6_1)] [(.ref a6_0)])) _
    refine st1 _ ?_
    exact k)
  obtain ⟨T3, X3, e3, st3⟩ := getF X1 hx hZ hown (host := "") (Or.inl (hW 14 _ rfl)) Via.refl e1 F_cpuMilli_a6_1 (g := (mkF m 5 #[.val (.ref a6_0), .val (.ref a6_1)] [(.ref a6_1), (.long w6_cpuMilli_a6_0)])) rfl rfl (hb hby d6_5)
  have pre4 : ∀ t, Steps p.tables e below (T3.setTop (mkF m 8 #[.val (.ref a6_0), .val (.ref a6_1)] [(.long w6_cpuMilli_a6_1), (.long w6_cpuMilli_a6_0)])) t → Steps p.tables e below (s₁.setTop (entryFrame m #[(.ref a6_0), (.ref a6_1)] 2)) t := fun t k => pre2 t (by
    show Steps p.tables e below (T1.setTop (mkF m 4 #[.val (.ref a6_0), .val (.ref a6_1)] [(.long w6_cpuMilli_a6_0)])) _
    refine XS.aloadN X1.here hx rfl (hb hby d6_4) rfl rfl ?_
    show Steps p.tables e below (T1.setTop (mkF m 5 #[.val (.ref a6_0), .val (.ref a6_1)] [(.ref a6_1), (.long w6_cpuMilli_a6_0)])) _
    refine st3 _ ?_
    exact k)
  by_cases hc5 : w6_cpuMilli_a6_0 < w6_cpuMilli_a6_1
  · obtain ⟨fs, hr, hrun, hended, hW, hsame⟩ := X3.leave (v := some (.int (0 : Int32))) (fun h => by rw [Bd.returns] at h; cases h)
    refine ⟨_, _, pre4 _ ?_, hrun, hended, _, _, rfl, ?_, ⟨_, rfl⟩, hW, hsame.mono (by decide) (by decide)⟩
    · show Steps p.tables e below (T3.setTop (mkF m 8 #[.val (.ref a6_0), .val (.ref a6_1)] [(.long w6_cpuMilli_a6_1), (.long w6_cpuMilli_a6_0)])) _
      refine XS.lcmp X3.here hx rfl (hb hby d6_8) rfl ?_
      show Steps p.tables e below (T3.setTop (mkF m 9 #[.val (.ref a6_0), .val (.ref a6_1)] [(.int (lcmpW w6_cpuMilli_a6_0 w6_cpuMilli_a6_1))])) _
      refine XS.ifYes X3.here hx rfl (pc0 := 9) (pc' := 52) rfl (hb hby d6_9) rfl ((if0 _ _).trans (tlt ((lw_lt _ _).mpr hc5)).1) (by decide) (by decide) ?_
      show Steps p.tables e below (T3.setTop (mkF m 52 #[.val (.ref a6_0), .val (.ref a6_1)] [])) _
      refine XS.iconst X3.here hx rfl (hb hby d6_52) ?_
      show Steps p.tables e below (T3.setTop (mkF m 53 #[.val (.ref a6_0), .val (.ref a6_1)] [(.int (0 : Int32))])) _
      exact retN X3 hx (t := .boolean) Bd.returns (by simp) (hb hby d6_53) hr
    · show Q6 Z a6_0 a6_1 w6_cpuMilli_a6_0 w6_cpuMilli_a6_1 w6_memoryMib_a6_0 w6_memoryMib_a6_1 w6_deviceMilli_a6_0 w6_deviceMilli_a6_1 w6_wholeDevices_a6_0 w6_wholeDevices_a6_1 h0 n0 _ T3.heap _
      rw [e3]
      exact ⟨(congrArg (fun z => some (Value.int z)) ((bI_f (fun z => z.1 hc5)) : (bI (¬ (w6_cpuMilli_a6_0 < w6_cpuMilli_a6_1) ∧ (¬ (w6_memoryMib_a6_0 < w6_memoryMib_a6_1) ∧ (¬ (w6_deviceMilli_a6_0 < w6_deviceMilli_a6_1) ∧ (¬ (w6_wholeDevices_a6_0 < w6_wholeDevices_a6_1)))))) = (0 : Int32)).symm), N0, rfl⟩
  · obtain ⟨T6, X6, e6, st6⟩ := getF X3 hx hZ hown (host := "") (Or.inl (hW 16 _ rfl)) Via.refl e3 F_memoryMib_a6_0 (g := (mkF m 13 #[.val (.ref a6_0), .val (.ref a6_1)] [(.ref a6_0)])) rfl rfl (hb hby d6_13)
    have pre7 : ∀ t, Steps p.tables e below (T6.setTop (mkF m 16 #[.val (.ref a6_0), .val (.ref a6_1)] [(.long w6_memoryMib_a6_0)])) t → Steps p.tables e below (s₁.setTop (entryFrame m #[(.ref a6_0), (.ref a6_1)] 2)) t := fun t k => pre4 t (by
      show Steps p.tables e below (T3.setTop (mkF m 8 #[.val (.ref a6_0), .val (.ref a6_1)] [(.long w6_cpuMilli_a6_1), (.long w6_cpuMilli_a6_0)])) _
      refine XS.lcmp X3.here hx rfl (hb hby d6_8) rfl ?_
      show Steps p.tables e below (T3.setTop (mkF m 9 #[.val (.ref a6_0), .val (.ref a6_1)] [(.int (lcmpW w6_cpuMilli_a6_0 w6_cpuMilli_a6_1))])) _
      refine XS.ifNo X3.here hx rfl (hb hby d6_9) rfl ((if0 _ _).trans (flt (fun q => hc5 ((lw_lt _ _).mp q))).1) ?_
      show Steps p.tables e below (T3.setTop (mkF m 12 #[.val (.ref a6_0), .val (.ref a6_1)] [])) _
      refine XS.aloadN X3.here hx rfl (hb hby d6_12) rfl rfl ?_
      show Steps p.tables e below (T3.setTop (mkF m 13 #[.val (.ref a6_0), .val (.ref a6_1)] [(.ref a6_0)])) _
      refine st6 _ ?_
      exact k)
    obtain ⟨T8, X8, e8, st8⟩ := getF X6 hx hZ hown (host := "") (Or.inl (hW 16 _ rfl)) Via.refl e6 F_memoryMib_a6_1 (g := (mkF m 17 #[.val (.ref a6_0), .val (.ref a6_1)] [(.ref a6_1), (.long w6_memoryMib_a6_0)])) rfl rfl (hb hby d6_17)
    have pre9 : ∀ t, Steps p.tables e below (T8.setTop (mkF m 20 #[.val (.ref a6_0), .val (.ref a6_1)] [(.long w6_memoryMib_a6_1), (.long w6_memoryMib_a6_0)])) t → Steps p.tables e below (s₁.setTop (entryFrame m #[(.ref a6_0), (.ref a6_1)] 2)) t := fun t k => pre7 t (by
      show Steps p.tables e below (T6.setTop (mkF m 16 #[.val (.ref a6_0), .val (.ref a6_1)] [(.long w6_memoryMib_a6_0)])) _
      refine XS.aloadN X6.here hx rfl (hb hby d6_16) rfl rfl ?_
      show Steps p.tables e below (T6.setTop (mkF m 17 #[.val (.ref a6_0), .val (.ref a6_1)] [(.ref a6_1), (.long w6_memoryMib_a6_0)])) _
      refine st8 _ ?_
      exact k)
    by_cases hc10 : w6_memoryMib_a6_0 < w6_memoryMib_a6_1
    · obtain ⟨fs, hr, hrun, hended, hW, hsame⟩ := X8.leave (v := some (.int (0 : Int32))) (fun h => by rw [Bd.returns] at h; cases h)
      refine ⟨_, _, pre9 _ ?_, hrun, hended, _, _, rfl, ?_, ⟨_, rfl⟩, hW, hsame.mono (by decide) (by decide)⟩
      · show Steps p.tables e below (T8.setTop (mkF m 20 #[.val (.ref a6_0), .val (.ref a6_1)] [(.long w6_memoryMib_a6_1), (.long w6_memoryMib_a6_0)])) _
        refine XS.lcmp X8.here hx rfl (hb hby d6_20) rfl ?_
        show Steps p.tables e below (T8.setTop (mkF m 21 #[.val (.ref a6_0), .val (.ref a6_1)] [(.int (lcmpW w6_memoryMib_a6_0 w6_memoryMib_a6_1))])) _
        refine XS.ifYes X8.here hx rfl (pc0 := 21) (pc' := 52) rfl (hb hby d6_21) rfl ((if0 _ _).trans (tlt ((lw_lt _ _).mpr hc10)).1) (by decide) (by decide) ?_
        show Steps p.tables e below (T8.setTop (mkF m 52 #[.val (.ref a6_0), .val (.ref a6_1)] [])) _
        refine XS.iconst X8.here hx rfl (hb hby d6_52) ?_
        show Steps p.tables e below (T8.setTop (mkF m 53 #[.val (.ref a6_0), .val (.ref a6_1)] [(.int (0 : Int32))])) _
        exact retN X8 hx (t := .boolean) Bd.returns (by simp) (hb hby d6_53) hr
      · show Q6 Z a6_0 a6_1 w6_cpuMilli_a6_0 w6_cpuMilli_a6_1 w6_memoryMib_a6_0 w6_memoryMib_a6_1 w6_deviceMilli_a6_0 w6_deviceMilli_a6_1 w6_wholeDevices_a6_0 w6_wholeDevices_a6_1 h0 n0 _ T8.heap _
        rw [e8]
        exact ⟨(congrArg (fun z => some (Value.int z)) ((bI_f (fun z => (fun z => z.1 hc10) z.2)) : (bI (¬ (w6_cpuMilli_a6_0 < w6_cpuMilli_a6_1) ∧ (¬ (w6_memoryMib_a6_0 < w6_memoryMib_a6_1) ∧ (¬ (w6_deviceMilli_a6_0 < w6_deviceMilli_a6_1) ∧ (¬ (w6_wholeDevices_a6_0 < w6_wholeDevices_a6_1)))))) = (0 : Int32)).symm), N0, rfl⟩
    · obtain ⟨T11, X11, e11, st11⟩ := getF X8 hx hZ hown (host := "") (Or.inl (hW 18 _ rfl)) Via.refl e8 F_deviceMilli_a6_0 (g := (mkF m 25 #[.val (.ref a6_0), .val (.ref a6_1)] [(.ref a6_0)])) rfl rfl (hb hby d6_25)
      have pre12 : ∀ t, Steps p.tables e below (T11.setTop (mkF m 28 #[.val (.ref a6_0), .val (.ref a6_1)] [(.long w6_deviceMilli_a6_0)])) t → Steps p.tables e below (s₁.setTop (entryFrame m #[(.ref a6_0), (.ref a6_1)] 2)) t := fun t k => pre9 t (by
        show Steps p.tables e below (T8.setTop (mkF m 20 #[.val (.ref a6_0), .val (.ref a6_1)] [(.long w6_memoryMib_a6_1), (.long w6_memoryMib_a6_0)])) _
        refine XS.lcmp X8.here hx rfl (hb hby d6_20) rfl ?_
        show Steps p.tables e below (T8.setTop (mkF m 21 #[.val (.ref a6_0), .val (.ref a6_1)] [(.int (lcmpW w6_memoryMib_a6_0 w6_memoryMib_a6_1))])) _
        refine XS.ifNo X8.here hx rfl (hb hby d6_21) rfl ((if0 _ _).trans (flt (fun q => hc10 ((lw_lt _ _).mp q))).1) ?_
        show Steps p.tables e below (T8.setTop (mkF m 24 #[.val (.ref a6_0), .val (.ref a6_1)] [])) _
        refine XS.aloadN X8.here hx rfl (hb hby d6_24) rfl rfl ?_
        show Steps p.tables e below (T8.setTop (mkF m 25 #[.val (.ref a6_0), .val (.ref a6_1)] [(.ref a6_0)])) _
        refine st11 _ ?_
        exact k)
      obtain ⟨T13, X13, e13, st13⟩ := getF X11 hx hZ hown (host := "") (Or.inl (hW 18 _ rfl)) Via.refl e11 F_deviceMilli_a6_1 (g := (mkF m 29 #[.val (.ref a6_0), .val (.ref a6_1)] [(.ref a6_1), (.long w6_deviceMilli_a6_0)])) rfl rfl (hb hby d6_29)
      have pre14 : ∀ t, Steps p.tables e below (T13.setTop (mkF m 32 #[.val (.ref a6_0), .val (.ref a6_1)] [(.long w6_deviceMilli_a6_1), (.long w6_deviceMilli_a6_0)])) t → Steps p.tables e below (s₁.setTop (entryFrame m #[(.ref a6_0), (.ref a6_1)] 2)) t := fun t k => pre12 t (by
        show Steps p.tables e below (T11.setTop (mkF m 28 #[.val (.ref a6_0), .val (.ref a6_1)] [(.long w6_deviceMilli_a6_0)])) _
        refine XS.aloadN X11.here hx rfl (hb hby d6_28) rfl rfl ?_
        show Steps p.tables e below (T11.setTop (mkF m 29 #[.val (.ref a6_0), .val (.ref a6_1)] [(.ref a6_1), (.long w6_deviceMilli_a6_0)])) _
        refine st13 _ ?_
        exact k)
      by_cases hc15 : w6_deviceMilli_a6_0 < w6_deviceMilli_a6_1
      · obtain ⟨fs, hr, hrun, hended, hW, hsame⟩ := X13.leave (v := some (.int (0 : Int32))) (fun h => by rw [Bd.returns] at h; cases h)
        refine ⟨_, _, pre14 _ ?_, hrun, hended, _, _, rfl, ?_, ⟨_, rfl⟩, hW, hsame.mono (by decide) (by decide)⟩
        · show Steps p.tables e below (T13.setTop (mkF m 32 #[.val (.ref a6_0), .val (.ref a6_1)] [(.long w6_deviceMilli_a6_1), (.long w6_deviceMilli_a6_0)])) _
          refine XS.lcmp X13.here hx rfl (hb hby d6_32) rfl ?_
          show Steps p.tables e below (T13.setTop (mkF m 33 #[.val (.ref a6_0), .val (.ref a6_1)] [(.int (lcmpW w6_deviceMilli_a6_0 w6_deviceMilli_a6_1))])) _
          refine XS.ifYes X13.here hx rfl (pc0 := 33) (pc' := 52) rfl (hb hby d6_33) rfl ((if0 _ _).trans (tlt ((lw_lt _ _).mpr hc15)).1) (by decide) (by decide) ?_
          show Steps p.tables e below (T13.setTop (mkF m 52 #[.val (.ref a6_0), .val (.ref a6_1)] [])) _
          refine XS.iconst X13.here hx rfl (hb hby d6_52) ?_
          show Steps p.tables e below (T13.setTop (mkF m 53 #[.val (.ref a6_0), .val (.ref a6_1)] [(.int (0 : Int32))])) _
          exact retN X13 hx (t := .boolean) Bd.returns (by simp) (hb hby d6_53) hr
        · show Q6 Z a6_0 a6_1 w6_cpuMilli_a6_0 w6_cpuMilli_a6_1 w6_memoryMib_a6_0 w6_memoryMib_a6_1 w6_deviceMilli_a6_0 w6_deviceMilli_a6_1 w6_wholeDevices_a6_0 w6_wholeDevices_a6_1 h0 n0 _ T13.heap _
          rw [e13]
          exact ⟨(congrArg (fun z => some (Value.int z)) ((bI_f (fun z => (fun z => (fun z => z.1 hc15) z.2) z.2)) : (bI (¬ (w6_cpuMilli_a6_0 < w6_cpuMilli_a6_1) ∧ (¬ (w6_memoryMib_a6_0 < w6_memoryMib_a6_1) ∧ (¬ (w6_deviceMilli_a6_0 < w6_deviceMilli_a6_1) ∧ (¬ (w6_wholeDevices_a6_0 < w6_wholeDevices_a6_1)))))) = (0 : Int32)).symm), N0, rfl⟩
      · obtain ⟨T16, X16, e16, st16⟩ := getF X13 hx hZ hown (host := "") (Or.inl (hW 20 _ rfl)) Via.refl e13 F_wholeDevices_a6_0 (g := (mkF m 37 #[.val (.ref a6_0), .val (.ref a6_1)] [(.ref a6_0)])) rfl rfl (hb hby d6_37)
        have pre17 : ∀ t, Steps p.tables e below (T16.setTop (mkF m 40 #[.val (.ref a6_0), .val (.ref a6_1)] [(.long w6_wholeDevices_a6_0)])) t → Steps p.tables e below (s₁.setTop (entryFrame m #[(.ref a6_0), (.ref a6_1)] 2)) t := fun t k => pre14 t (by
          show Steps p.tables e below (T13.setTop (mkF m 32 #[.val (.ref a6_0), .val (.ref a6_1)] [(.long w6_deviceMilli_a6_1), (.long w6_deviceMilli_a6_0)])) _
          refine XS.lcmp X13.here hx rfl (hb hby d6_32) rfl ?_
          show Steps p.tables e below (T13.setTop (mkF m 33 #[.val (.ref a6_0), .val (.ref a6_1)] [(.int (lcmpW w6_deviceMilli_a6_0 w6_deviceMilli_a6_1))])) _
          refine XS.ifNo X13.here hx rfl (hb hby d6_33) rfl ((if0 _ _).trans (flt (fun q => hc15 ((lw_lt _ _).mp q))).1) ?_
          show Steps p.tables e below (T13.setTop (mkF m 36 #[.val (.ref a6_0), .val (.ref a6_1)] [])) _
          refine XS.aloadN X13.here hx rfl (hb hby d6_36) rfl rfl ?_
          show Steps p.tables e below (T13.setTop (mkF m 37 #[.val (.ref a6_0), .val (.ref a6_1)] [(.ref a6_0)])) _
          refine st16 _ ?_
          exact k)
        obtain ⟨T18, X18, e18, st18⟩ := getF X16 hx hZ hown (host := "") (Or.inl (hW 20 _ rfl)) Via.refl e16 F_wholeDevices_a6_1 (g := (mkF m 41 #[.val (.ref a6_0), .val (.ref a6_1)] [(.ref a6_1), (.long w6_wholeDevices_a6_0)])) rfl rfl (hb hby d6_41)
        have pre19 : ∀ t, Steps p.tables e below (T18.setTop (mkF m 44 #[.val (.ref a6_0), .val (.ref a6_1)] [(.long w6_wholeDevices_a6_1), (.long w6_wholeDevices_a6_0)])) t → Steps p.tables e below (s₁.setTop (entryFrame m #[(.ref a6_0), (.ref a6_1)] 2)) t := fun t k => pre17 t (by
          show Steps p.tables e below (T16.setTop (mkF m 40 #[.val (.ref a6_0), .val (.ref a6_1)] [(.long w6_wholeDevices_a6_0)])) _
          refine XS.aloadN X16.here hx rfl (hb hby d6_40) rfl rfl ?_
          show Steps p.tables e below (T16.setTop (mkF m 41 #[.val (.ref a6_0), .val (.ref a6_1)] [(.ref a6_1), (.long w6_wholeDevices_a6_0)])) _
          refine st18 _ ?_
          exact k)
        by_cases hc20 : w6_wholeDevices_a6_0 < w6_wholeDevices_a6_1
        · obtain ⟨fs, hr, hrun, hended, hW, hsame⟩ := X18.leave (v := some (.int (0 : Int32))) (fun h => by rw [Bd.returns] at h; cases h)
          refine ⟨_, _, pre19 _ ?_, hrun, hended, _, _, rfl, ?_, ⟨_, rfl⟩, hW, hsame.mono (by decide) (by decide)⟩
          · show Steps p.tables e below (T18.setTop (mkF m 44 #[.val (.ref a6_0), .val (.ref a6_1)] [(.long w6_wholeDevices_a6_1), (.long w6_wholeDevices_a6_0)])) _
            refine XS.lcmp X18.here hx rfl (hb hby d6_44) rfl ?_
            show Steps p.tables e below (T18.setTop (mkF m 45 #[.val (.ref a6_0), .val (.ref a6_1)] [(.int (lcmpW w6_wholeDevices_a6_0 w6_wholeDevices_a6_1))])) _
            refine XS.ifYes X18.here hx rfl (pc0 := 45) (pc' := 52) rfl (hb hby d6_45) rfl ((if0 _ _).trans (tlt ((lw_lt _ _).mpr hc20)).1) (by decide) (by decide) ?_
            show Steps p.tables e below (T18.setTop (mkF m 52 #[.val (.ref a6_0), .val (.ref a6_1)] [])) _
            refine XS.iconst X18.here hx rfl (hb hby d6_52) ?_
            show Steps p.tables e below (T18.setTop (mkF m 53 #[.val (.ref a6_0), .val (.ref a6_1)] [(.int (0 : Int32))])) _
            exact retN X18 hx (t := .boolean) Bd.returns (by simp) (hb hby d6_53) hr
          · show Q6 Z a6_0 a6_1 w6_cpuMilli_a6_0 w6_cpuMilli_a6_1 w6_memoryMib_a6_0 w6_memoryMib_a6_1 w6_deviceMilli_a6_0 w6_deviceMilli_a6_1 w6_wholeDevices_a6_0 w6_wholeDevices_a6_1 h0 n0 _ T18.heap _
            rw [e18]
            exact ⟨(congrArg (fun z => some (Value.int z)) ((bI_f (fun z => (fun z => (fun z => (fun q => q hc20) z.2) z.2) z.2)) : (bI (¬ (w6_cpuMilli_a6_0 < w6_cpuMilli_a6_1) ∧ (¬ (w6_memoryMib_a6_0 < w6_memoryMib_a6_1) ∧ (¬ (w6_deviceMilli_a6_0 < w6_deviceMilli_a6_1) ∧ (¬ (w6_wholeDevices_a6_0 < w6_wholeDevices_a6_1)))))) = (0 : Int32)).symm), N0, rfl⟩
        · obtain ⟨fs, hr, hrun, hended, hW, hsame⟩ := X18.leave (v := some (.int (1 : Int32))) (fun h => by rw [Bd.returns] at h; cases h)
          refine ⟨_, _, pre19 _ ?_, hrun, hended, _, _, rfl, ?_, ⟨_, rfl⟩, hW, hsame.mono (by decide) (by decide)⟩
          · show Steps p.tables e below (T18.setTop (mkF m 44 #[.val (.ref a6_0), .val (.ref a6_1)] [(.long w6_wholeDevices_a6_1), (.long w6_wholeDevices_a6_0)])) _
            refine XS.lcmp X18.here hx rfl (hb hby d6_44) rfl ?_
            show Steps p.tables e below (T18.setTop (mkF m 45 #[.val (.ref a6_0), .val (.ref a6_1)] [(.int (lcmpW w6_wholeDevices_a6_0 w6_wholeDevices_a6_1))])) _
            refine XS.ifNo X18.here hx rfl (hb hby d6_45) rfl ((if0 _ _).trans (flt (fun q => hc20 ((lw_lt _ _).mp q))).1) ?_
            show Steps p.tables e below (T18.setTop (mkF m 48 #[.val (.ref a6_0), .val (.ref a6_1)] [])) _
            refine XS.iconst X18.here hx rfl (hb hby d6_48) ?_
            show Steps p.tables e below (T18.setTop (mkF m 49 #[.val (.ref a6_0), .val (.ref a6_1)] [(.int (1 : Int32))])) _
            refine XS.goto X18.here hx rfl (pc0 := 49) (pc' := 53) rfl (hb hby d6_49) (by decide) (by decide) ?_
            show Steps p.tables e below (T18.setTop (mkF m 53 #[.val (.ref a6_0), .val (.ref a6_1)] [(.int (1 : Int32))])) _
            exact retN X18 hx (t := .boolean) Bd.returns (by simp) (hb hby d6_53) hr
          · show Q6 Z a6_0 a6_1 w6_cpuMilli_a6_0 w6_cpuMilli_a6_1 w6_memoryMib_a6_0 w6_memoryMib_a6_1 w6_deviceMilli_a6_0 w6_deviceMilli_a6_1 w6_wholeDevices_a6_0 w6_wholeDevices_a6_1 h0 n0 _ T18.heap _
            rw [e18]
            exact ⟨(congrArg (fun z => some (Value.int z)) ((bI_t ⟨hc5, ⟨hc10, ⟨hc15, hc20⟩⟩⟩) : (bI (¬ (w6_cpuMilli_a6_0 < w6_cpuMilli_a6_1) ∧ (¬ (w6_memoryMib_a6_0 < w6_memoryMib_a6_1) ∧ (¬ (w6_deviceMilli_a6_0 < w6_deviceMilli_a6_1) ∧ (¬ (w6_wholeDevices_a6_0 < w6_wholeDevices_a6_1)))))) = (1 : Int32)).symm), N0, rfl⟩
theorem pd_2 : parseMethodDescriptor "(JJJJ)V" = some ⟨[.long, .long, .long, .long], none⟩ := by decide +kernel
theorem pd_3 : parseMethodDescriptor "(JJ)Z" = some ⟨[.long, .long], some .boolean⟩ := by decide +kernel
theorem pd_4 : parseMethodDescriptor "(Lcom/example/nearlane/nearlane/engine/Room;)Z" = some ⟨[(.object "com/example/nearlane/nearlane/engine/Room")], some .boolean⟩ := by decide +kernel
theorem pn_0 : plainName "com/example/nearlane/nearlane/engine/RoomHoldsPinLaw" = true := by first | (simp [plainName, overriddenIn]; done) | decide +kernel
theorem ef_0 (m : MethodId) (x0 : Int64) (x1 : Int64) (x2 : Int64) (x3 : Int64) (x4 : Int64) (x5 : Int32) : entryFrame m #[(.long x0), (.long x1), (.long x2), (.long x3), (.long x4), (.int x5)] maxLocals = mkF m 0 #[.val (.long x0), .second, .val (.long x1), .second, .val (.long x2), .second, .val (.long x3), .second, .val (.long x4), .second, .val (.int x5), .unset, .unset, .unset, .unset, .unset, .unset, .unset, .unset, .unset, .unset, .unset, .unset, .unset, .unset, .unset] [] := by first | (simp [entryFrame, mkF, argsToLocals, Value.category, maxLocals]; done) | rfl
def Q0 (Z : State) (q0_0 : Int64) (q0_1 : Int64) (q0_2 : Int64) (q0_3 : Int64) (q0_4 : Int64) (p0_5 : Int32) (h0 : Heap) (n0 : Nat) (v : Option Value) (h : Heap) (L : List Loc) : Prop := v = some (.int (1 : Int32)) ∧ Fr n0 L
set_option maxRecDepth 65536 in
set_option maxHeartbeats 40000000 in
theorem rm0 (l : Launch) (Z : State) (a0 : Array Value) (hw : ∀ d ∈ tables_1, d.before a0 Z = true) (ws : List Jvm.Cond) (q0_0 : Int64) (q0_1 : Int64) (q0_2 : Int64) (q0_3 : Int64) (q0_4 : Int64) (p0_5 : Int32) (h0 : Heap) (n0 : Nat) (Z0 : n0 ≤ h0.size) :
    MetFree l x (head1 (Jvm.Cond.code x code maxLocals ret :: ws) room_1) (fun a U => a = #[(.long q0_0), (.long q0_1), (.long q0_2), (.long q0_3), (.long q0_4), (.int p0_5)] ∧ Z.Warmed39 U.vm ∧ U.heap = h0) (fun _ _ _ _ _ => True) (fun _ U o U' => ∃ v L, o = .returned v ∧ Q0 Z q0_0 q0_1 q0_2 q0_3 q0_4 p0_5 h0 n0 v U'.heap L ∧ FrameEnd U o U' L room_1.cells room_1.slots) := by
  refine MetFree.of_bodySF (plainFor_of_name pn_0) hisR ?_
  intro p e s m args below meth c s₁ Bd hml0 hP hK
  obtain ⟨rfl, hZ, hh⟩ := hP
  have hW : ∀ (i : Nat) (d : Jvm.Cond), tables_1[i]? = some d → d.before a0 Z = true := fun i d h => hw d (List.mem_of_getElem? h)
  have hx := Bd.exec
  have hby := Bd.bytes
  have hml : c.maxLocals = 26 := hml0
  have hown : s.vm.findClass "com/example/nearlane/nearlane/engine/RoomHoldsPinLaw" = some m.cls := findClass_of_methodNamed Bd.named
  have hnm := (name_of_methodNamed Bd.named Bd.method).1
  have X0 : Stand p l e room_1 s m #[(.long q0_0), (.long q0_1), (.long q0_2), (.long q0_3), (.long q0_4), (.int p0_5)] below meth c s₁ [] 0 0 := Stand.of_body Bd
  have e0 : s₁.heap = h0 := by rw [← hh, Bd.state]; rfl
  have N0 := Fr.nil n0
  have pre0 : ∀ t, Steps p.tables e below (s₁.setTop (mkF m 0 #[.val (.long q0_0), .second, .val (.long q0_1), .second, .val (.long q0_2), .second, .val (.long q0_3), .second, .val (.long q0_4), .second, .val (.int p0_5), .unset, .unset, .unset, .unset, .unset, .unset, .unset, .unset, .unset, .unset, .unset, .unset, .unset, .unset, .unset] [])) t → Steps p.tables e below (s₁.setTop (entryFrame m #[(.long q0_0), (.long q0_1), (.long q0_2), (.long q0_3), (.long q0_4), (.int p0_5)] maxLocals)) t := fun t k => castTop (ef_0 m q0_0 q0_1 q0_2 q0_3 q0_4 p0_5) k
  have pre2 : ∀ t, Steps p.tables e below (s₁.setTop (mkF m 4 #[.val (.long q0_0), .second, .val (.long q0_1), .second, .val (.long q0_2), .second, .val (.long q0_3), .second, .val (.long q0_4), .second, .val (.int p0_5), .unset, .unset, .unset, .unset, .unset, .unset, .unset, .unset, .unset, .unset, .unset, .unset, .unset, .unset, .unset] [(.int (p0_5 &&& (1 : Int32)))])) t → Steps p.tables e below (s₁.setTop (entryFrame m #[(.long q0_0), (.long q0_1), (.long q0_2), (.long q0_3), (.long q0_4), (.int p0_5)] maxLocals)) t := fun t k => pre0 t (by
    show Steps p.tables e below (s₁.setTop (mkF m 0 #[.val (.long q0_0), .second, .val (.long q0_1), .second, .val (.long q0_2), .second, .val (.long q0_3), .second, .val (.long q0_4), .second, .val (.int p0_5), .unset, .unset, .unset, .unset, .unset, .unset, .unset, .unset, .unset, .unset, .unset, .unset, .unset, .unset, .unset] [])) _
    refine XS.iload X0.here hx rfl (hb hby at_0) rfl ?_
    show Steps p.tables e below (s₁.setTop (mkF m 2 #[.val (.long q0_0), .second, .val (.long q0_1), .second, .val (.long q0_2), .second, .val (.long q0_3), .second, .val (.long q0_4), .second, .val (.int p0_5), .unset, .unset, .unset, .unset, .unset, .unset, .unset, .unset, .unset, .unset, .unset, .unset, .unset, .unset, .unset] [(.int p0_5)])) _
    refine XS.iconst X0.here hx rfl (hb hby at_2) ?_
    show Steps p.tables e below (s₁.setTop (mkF m 3 #[.val (.long q0_0), .second, .val (.long q0_1), .second, .val (.long q0_2), .second, .val (.long q0_3), .second, .val (.long q0_4), .second, .val (.int p0_5), .unset, .unset, .unset, .unset, .unset, .unset, .unset, .unset, .unset, .unset, .unset, .unset, .unset, .unset, .unset] [(.int (1 : Int32)), (.int p0_5)])) _
    refine XS.iand X0.here hx rfl (hb hby at_3) rfl ?_
    exact k)
  have pre3 : ∀ t, Steps p.tables e below (s₁.setTop (mkF m 12 #[.val (.long q0_0), .second, .val (.long q0_1), .second, .val (.long q0_2), .second, .val (.long q0_3), .second, .val (.long q0_4), .second, .val (.int p0_5), .unset, .unset, .unset, .unset, .unset, .unset, .unset, .unset, .unset, .unset, .unset, .unset, .unset, .unset, .unset] [(.int (bI (¬ ((p0_5 &&& (1 : Int32)) = (0 : Int32)))))])) t → Steps p.tables e below (s₁.setTop (entryFrame m #[(.long q0_0), (.long q0_1), (.long q0_2), (.long q0_3), (.long q0_4), (.int p0_5)] maxLocals)) t := fun t k => pre2 t (by
    by_cases hc1 : (p0_5 &&& (1 : Int32)) = (0 : Int32)
    · show Steps p.tables e below (s₁.setTop (mkF m 4 #[.val (.long q0_0), .second, .val (.long q0_1), .second, .val (.long q0_2), .second, .val (.long q0_3), .second, .val (.long q0_4), .second, .val (.int p0_5), .unset, .unset, .unset, .unset, .unset, .unset, .unset, .unset, .unset, .unset, .unset, .unset, .unset, .unset, .unset] [(.int (p0_5 &&& (1 : Int32)))])) _
      refine XS.ifYes X0.here hx rfl (pc0 := 4) (pc' := 11) rfl (hb hby at_4) rfl ((if0 _ _).trans (teq hc1).1) (by decide) (by decide) ?_
      show Steps p.tables e below (s₁.setTop (mkF m 11 #[.val (.long q0_0), .second, .val (.long q0_1), .second, .val (.long q0_2), .second, .val (.long q0_3), .second, .val (.long q0_4), .second, .val (.int p0_5), .unset, .unset, .unset, .unset, .unset, .unset, .unset, .unset, .unset, .unset, .unset, .unset, .unset, .unset, .unset] [])) _
      refine XS.iconst X0.here hx rfl (hb hby at_11) ?_
      have q4 : (bI (¬ ((p0_5 &&& (1 : Int32)) = (0 : Int32)))) = (0 : Int32) := (bI_f (fun q => q hc1))
      exact castTop (g := (mkF m 12 #[.val (.long q0_0), .second, .val (.long q0_1), .second, .val (.long q0_2), .second, .val (.long q0_3), .second, .val (.long q0_4), .second, .val (.int p0_5), .unset, .unset, .unset, .unset, .unset, .unset, .unset, .unset, .unset, .unset, .unset, .unset, .unset, .unset, .unset] [(.int (0 : Int32))])) (g' := (mkF m 12 #[.val (.long q0_0), .second, .val (.long q0_1), .second, .val (.long q0_2), .second, .val (.long q0_3), .second, .val (.long q0_4), .second, .val (.int p0_5), .unset, .unset, .unset, .unset, .unset, .unset, .unset, .unset, .unset, .unset, .unset, .unset, .unset, .unset, .unset] [(.int (bI (¬ ((p0_5 &&& (1 : Int32)) = (0 : Int32)))))])) (by simp only [q4]) k
    · show Steps p.tables e below (s₁.setTop (mkF m 4 #[.val (.long q0_0), .second, .val (.long q0_1), .second, .val (.long q0_2), .second, .val (.long q0_3), .second, .val (.long q0_4), .second, .val (.int p0_5), .unset, .unset, .unset, .unset, .unset, .unset, .unset, .unset, .unset, .unset, .unset, .unset, .unset, .unset, .unset] [(.int (p0_5 &&& (1 : Int32)))])) _
      refine XS.ifNo X0.here hx rfl (hb hby at_4) rfl ((if0 _ _).trans (feq hc1).1) ?_
      show Steps p.tables e below (s₁.setTop (mkF m 7 #[.val (.long q0_0), .second, .val (.long q0_1), .second, .val (.long q0_2), .second, .val (.long q0_3), .second, .val (.long q0_4), .second, .val (.int p0_5), .unset, .unset, .unset, .unset, .unset, .unset, .unset, .unset, .unset, .unset, .unset, .unset, .unset, .unset, .unset] [])) _
      refine XS.iconst X0.here hx rfl (hb hby at_7) ?_
      show Steps p.tables e below (s₁.setTop (mkF m 8 #[.val (.long q0_0), .second, .val (.long q0_1), .second, .val (.long q0_2), .second, .val (.long q0_3), .second, .val (.long q0_4), .second, .val (.int p0_5), .unset, .unset, .unset, .unset, .unset, .unset, .unset, .unset, .unset, .unset, .unset, .unset, .unset, .unset, .unset] [(.int (1 : Int32))])) _
      refine XS.goto X0.here hx rfl (pc0 := 8) (pc' := 12) rfl (hb hby at_8) (by decide) (by decide) ?_
      have q5 : (bI (¬ ((p0_5 &&& (1 : Int32)) = (0 : Int32)))) = (1 : Int32) := (bI_t hc1)
      exact castTop (g := (mkF m 12 #[.val (.long q0_0), .second, .val (.long q0_1), .second, .val (.long q0_2), .second, .val (.long q0_3), .second, .val (.long q0_4), .second, .val (.int p0_5), .unset, .unset, .unset, .unset, .unset, .unset, .unset, .unset, .unset, .unset, .unset, .unset, .unset, .unset, .unset] [(.int (1 : Int32))])) (g' := (mkF m 12 #[.val (.long q0_0), .second, .val (.long q0_1), .second, .val (.long q0_2), .second, .val (.long q0_3), .second, .val (.long q0_4), .second, .val (.int p0_5), .unset, .unset, .unset, .unset, .unset, .unset, .unset, .unset, .unset, .unset, .unset, .unset, .unset, .unset, .unset] [(.int (bI (¬ ((p0_5 &&& (1 : Int32)) = (0 : Int32)))))])) (by simp only [q5]) k)
  have pre7 : ∀ t, Steps p.tables e below (s₁.setTop (mkF m 18 #[.val (.long q0_0), .second, .val (.long q0_1), .second, .val (.long q0_2), .second, .val (.long q0_3), .second, .val (.long q0_4), .second, .val (.int p0_5), .val (.int (bI (¬ ((p0_5 &&& (1 : Int32)) = (0 : Int32))))), .unset, .unset, .unset, .unset, .unset, .unset, .unset, .unset, .unset, .unset, .unset, .unset, .unset, .unset] [(.int (p0_5 &&& (2 : Int32)))])) t → Steps p.tables e below (s₁.setTop (entryFrame m #[(.long q0_0), (.long q0_1), (.long q0_2), (.long q0_3), (.long q0_4), (.int p0_5)] maxLocals)) t := fun t k => pre3 t (by
    show Steps p.tables e below (s₁.setTop (mkF m 12 #[.val (.long q0_0), .second, .val (.long q0_1), .second, .val (.long q0_2), .second, .val (.long q0_3), .second, .val (.long q0_4), .second, .val (.int p0_5), .unset, .unset, .unset, .unset, .unset, .unset, .unset, .unset, .unset, .unset, .unset, .unset, .unset, .unset, .unset] [(.int (bI (¬ ((p0_5 &&& (1 : Int32)) = (0 : Int32)))))])) _
    refine XS.istore X0.here hx rfl (hb hby at_12) rfl (l' := #[.val (.long q0_0), .second, .val (.long q0_1), .second, .val (.long q0_2), .second, .val (.long q0_3), .second, .val (.long q0_4), .second, .val (.int p0_5), .val (.int (bI (¬ ((p0_5 &&& (1 : Int32)) = (0 : Int32))))), .unset, .unset, .unset, .unset, .unset, .unset, .unset, .unset, .unset, .unset, .unset, .unset, .unset, .unset]) rfl ?_
    show Steps p.tables e below (s₁.setTop (mkF m 14 #[.val (.long q0_0), .second, .val (.long q0_1), .second, .val (.long q0_2), .second, .val (.long q0_3), .second, .val (.long q0_4), .second, .val (.int p0_5), .val (.int (bI (¬ ((p0_5 &&& (1 : Int32)) = (0 : Int32))))), .unset, .unset, .unset, .unset, .unset, .unset, .unset, .unset, .unset, .unset, .unset, .unset, .unset, .unset] [])) _
    refine XS.iload X0.here hx rfl (hb hby at_14) rfl ?_
    show Steps p.tables e below (s₁.setTop (mkF m 16 #[.val (.long q0_0), .second, .val (.long q0_1), .second, .val (.long q0_2), .second, .val (.long q0_3), .second, .val (.long q0_4), .second, .val (.int p0_5), .val (.int (bI (¬ ((p0_5 &&& (1 : Int32)) = (0 : Int32))))), .unset, .unset, .unset, .unset, .unset, .unset, .unset, .unset, .unset, .unset, .unset, .unset, .unset, .unset] [(.int p0_5)])) _
    refine XS.iconst X0.here hx rfl (hb hby at_16) ?_
    show Steps p.tables e below (s₁.setTop (mkF m 17 #[.val (.long q0_0), .second, .val (.long q0_1), .second, .val (.long q0_2), .second, .val (.long q0_3), .second, .val (.long q0_4), .second, .val (.int p0_5), .val (.int (bI (¬ ((p0_5 &&& (1 : Int32)) = (0 : Int32))))), .unset, .unset, .unset, .unset, .unset, .unset, .unset, .unset, .unset, .unset, .unset, .unset, .unset, .unset] [(.int (2 : Int32)), (.int p0_5)])) _
    refine XS.iand X0.here hx rfl (hb hby at_17) rfl ?_
    exact k)
  have pre8 : ∀ t, Steps p.tables e below (s₁.setTop (mkF m 26 #[.val (.long q0_0), .second, .val (.long q0_1), .second, .val (.long q0_2), .second, .val (.long q0_3), .second, .val (.long q0_4), .second, .val (.int p0_5), .val (.int (bI (¬ ((p0_5 &&& (1 : Int32)) = (0 : Int32))))), .unset, .unset, .unset, .unset, .unset, .unset, .unset, .unset, .unset, .unset, .unset, .unset, .unset, .unset] [(.int (bI (¬ ((p0_5 &&& (2 : Int32)) = (0 : Int32)))))])) t → Steps p.tables e below (s₁.setTop (entryFrame m #[(.long q0_0), (.long q0_1), (.long q0_2), (.long q0_3), (.long q0_4), (.int p0_5)] maxLocals)) t := fun t k => pre7 t (by
    by_cases hc6 : (p0_5 &&& (2 : Int32)) = (0 : Int32)
    · show Steps p.tables e below (s₁.setTop (mkF m 18 #[.val (.long q0_0), .second, .val (.long q0_1), .second, .val (.long q0_2), .second, .val (.long q0_3), .second, .val (.long q0_4), .second, .val (.int p0_5), .val (.int (bI (¬ ((p0_5 &&& (1 : Int32)) = (0 : Int32))))), .unset, .unset, .unset, .unset, .unset, .unset, .unset, .unset, .unset, .unset, .unset, .unset, .unset, .unset] [(.int (p0_5 &&& (2 : Int32)))])) _
      refine XS.ifYes X0.here hx rfl (pc0 := 18) (pc' := 25) rfl (hb hby at_18) rfl ((if0 _ _).trans (teq hc6).1) (by decide) (by decide) ?_
      show Steps p.tables e below (s₁.setTop (mkF m 25 #[.val (.long q0_0), .second, .val (.long q0_1), .second, .val (.long q0_2), .second, .val (.long q0_3), .second, .val (.long q0_4), .second, .val (.int p0_5), .val (.int (bI (¬ ((p0_5 &&& (1 : Int32)) = (0 : Int32))))), .unset, .unset, .unset, .unset, .unset, .unset, .unset, .unset, .unset, .unset, .unset, .unset, .unset, .unset] [])) _
      refine XS.iconst X0.here hx rfl (hb hby at_25) ?_
      have q9 : (bI (¬ ((p0_5 &&& (2 : Int32)) = (0 : Int32)))) = (0 : Int32) := (bI_f (fun q => q hc6))
      exact castTop (g := (mkF m 26 #[.val (.long q0_0), .second, .val (.long q0_1), .second, .val (.long q0_2), .second, .val (.long q0_3), .second, .val (.long q0_4), .second, .val (.int p0_5), .val (.int (bI (¬ ((p0_5 &&& (1 : Int32)) = (0 : Int32))))), .unset, .unset, .unset, .unset, .unset, .unset, .unset, .unset, .unset, .unset, .unset, .unset, .unset, .unset] [(.int (0 : Int32))])) (g' := (mkF m 26 #[.val (.long q0_0), .second, .val (.long q0_1), .second, .val (.long q0_2), .second, .val (.long q0_3), .second, .val (.long q0_4), .second, .val (.int p0_5), .val (.int (bI (¬ ((p0_5 &&& (1 : Int32)) = (0 : Int32))))), .unset, .unset, .unset, .unset, .unset, .unset, .unset, .unset, .unset, .unset, .unset, .unset, .unset, .unset] [(.int (bI (¬ ((p0_5 &&& (2 : Int32)) = (0 : Int32)))))])) (by simp only [q9]) k
    · show Steps p.tables e below (s₁.setTop (mkF m 18 #[.val (.long q0_0), .second, .val (.long q0_1), .second, .val (.long q0_2), .second, .val (.long q0_3), .second, .val (.long q0_4), .second, .val (.int p0_5), .val (.int (bI (¬ ((p0_5 &&& (1 : Int32)) = (0 : Int32))))), .unset, .unset, .unset, .unset, .unset, .unset, .unset, .unset, .unset, .unset, .unset, .unset, .unset, .unset] [(.int (p0_5 &&& (2 : Int32)))])) _
      refine XS.ifNo X0.here hx rfl (hb hby at_18) rfl ((if0 _ _).trans (feq hc6).1) ?_
      show Steps p.tables e below (s₁.setTop (mkF m 21 #[.val (.long q0_0), .second, .val (.long q0_1), .second, .val (.long q0_2), .second, .val (.long q0_3), .second, .val (.long q0_4), .second, .val (.int p0_5), .val (.int (bI (¬ ((p0_5 &&& (1 : Int32)) = (0 : Int32))))), .unset, .unset, .unset, .unset, .unset, .unset, .unset, .unset, .unset, .unset, .unset, .unset, .unset, .unset] [])) _
      refine XS.iconst X0.here hx rfl (hb hby at_21) ?_
      show Steps p.tables e below (s₁.setTop (mkF m 22 #[.val (.long q0_0), .second, .val (.long q0_1), .second, .val (.long q0_2), .second, .val (.long q0_3), .second, .val (.long q0_4), .second, .val (.int p0_5), .val (.int (bI (¬ ((p0_5 &&& (1 : Int32)) = (0 : Int32))))), .unset, .unset, .unset, .unset, .unset, .unset, .unset, .unset, .unset, .unset, .unset, .unset, .unset, .unset] [(.int (1 : Int32))])) _
      refine XS.goto X0.here hx rfl (pc0 := 22) (pc' := 26) rfl (hb hby at_22) (by decide) (by decide) ?_
      have q10 : (bI (¬ ((p0_5 &&& (2 : Int32)) = (0 : Int32)))) = (1 : Int32) := (bI_t hc6)
      exact castTop (g := (mkF m 26 #[.val (.long q0_0), .second, .val (.long q0_1), .second, .val (.long q0_2), .second, .val (.long q0_3), .second, .val (.long q0_4), .second, .val (.int p0_5), .val (.int (bI (¬ ((p0_5 &&& (1 : Int32)) = (0 : Int32))))), .unset, .unset, .unset, .unset, .unset, .unset, .unset, .unset, .unset, .unset, .unset, .unset, .unset, .unset] [(.int (1 : Int32))])) (g' := (mkF m 26 #[.val (.long q0_0), .second, .val (.long q0_1), .second, .val (.long q0_2), .second, .val (.long q0_3), .second, .val (.long q0_4), .second, .val (.int p0_5), .val (.int (bI (¬ ((p0_5 &&& (1 : Int32)) = (0 : Int32))))), .unset, .unset, .unset, .unset, .unset, .unset, .unset, .unset, .unset, .unset, .unset, .unset, .unset, .unset] [(.int (bI (¬ ((p0_5 &&& (2 : Int32)) = (0 : Int32)))))])) (by simp only [q10]) k)
  have pre12 : ∀ t, Steps p.tables e below (s₁.setTop (mkF m 32 #[.val (.long q0_0), .second, .val (.long q0_1), .second, .val (.long q0_2), .second, .val (.long q0_3), .second, .val (.long q0_4), .second, .val (.int p0_5), .val (.int (bI (¬ ((p0_5 &&& (1 : Int32)) = (0 : Int32))))), .val (.int (bI (¬ ((p0_5 &&& (2 : Int32)) = (0 : Int32))))), .unset, .unset, .unset, .unset, .unset, .unset, .unset, .unset, .unset, .unset, .unset, .unset, .unset] [(.int (p0_5 &&& (4 : Int32)))])) t → Steps p.tables e below (s₁.setTop (entryFrame m #[(.long q0_0), (.long q0_1), (.long q0_2), (.long q0_3), (.long q0_4), (.int p0_5)] maxLocals)) t := fun t k => pre8 t (by
    show Steps p.tables e below (s₁.setTop (mkF m 26 #[.val (.long q0_0), .second, .val (.long q0_1), .second, .val (.long q0_2), .second, .val (.long q0_3), .second, .val (.long q0_4), .second, .val (.int p0_5), .val (.int (bI (¬ ((p0_5 &&& (1 : Int32)) = (0 : Int32))))), .unset, .unset, .unset, .unset, .unset, .unset, .unset, .unset, .unset, .unset, .unset, .unset, .unset, .unset] [(.int (bI (¬ ((p0_5 &&& (2 : Int32)) = (0 : Int32)))))])) _
    refine XS.istore X0.here hx rfl (hb hby at_26) rfl (l' := #[.val (.long q0_0), .second, .val (.long q0_1), .second, .val (.long q0_2), .second, .val (.long q0_3), .second, .val (.long q0_4), .second, .val (.int p0_5), .val (.int (bI (¬ ((p0_5 &&& (1 : Int32)) = (0 : Int32))))), .val (.int (bI (¬ ((p0_5 &&& (2 : Int32)) = (0 : Int32))))), .unset, .unset, .unset, .unset, .unset, .unset, .unset, .unset, .unset, .unset, .unset, .unset, .unset]) rfl ?_
    show Steps p.tables e below (s₁.setTop (mkF m 28 #[.val (.long q0_0), .second, .val (.long q0_1), .second, .val (.long q0_2), .second, .val (.long q0_3), .second, .val (.long q0_4), .second, .val (.int p0_5), .val (.int (bI (¬ ((p0_5 &&& (1 : Int32)) = (0 : Int32))))), .val (.int (bI (¬ ((p0_5 &&& (2 : Int32)) = (0 : Int32))))), .unset, .unset, .unset, .unset, .unset, .unset, .unset, .unset, .unset, .unset, .unset, .unset, .unset] [])) _
    refine XS.iload X0.here hx rfl (hb hby at_28) rfl ?_
    show Steps p.tables e below (s₁.setTop (mkF m 30 #[.val (.long q0_0), .second, .val (.long q0_1), .second, .val (.long q0_2), .second, .val (.long q0_3), .second, .val (.long q0_4), .second, .val (.int p0_5), .val (.int (bI (¬ ((p0_5 &&& (1 : Int32)) = (0 : Int32))))), .val (.int (bI (¬ ((p0_5 &&& (2 : Int32)) = (0 : Int32))))), .unset, .unset, .unset, .unset, .unset, .unset, .unset, .unset, .unset, .unset, .unset, .unset, .unset] [(.int p0_5)])) _
    refine XS.iconst X0.here hx rfl (hb hby at_30) ?_
    show Steps p.tables e below (s₁.setTop (mkF m 31 #[.val (.long q0_0), .second, .val (.long q0_1), .second, .val (.long q0_2), .second, .val (.long q0_3), .second, .val (.long q0_4), .second, .val (.int p0_5), .val (.int (bI (¬ ((p0_5 &&& (1 : Int32)) = (0 : Int32))))), .val (.int (bI (¬ ((p0_5 &&& (2 : Int32)) = (0 : Int32))))), .unset, .unset, .unset, .unset, .unset, .unset, .unset, .unset, .unset, .unset, .unset, .unset, .unset] [(.int (4 : Int32)), (.int p0_5)])) _
    refine XS.iand X0.here hx rfl (hb hby at_31) rfl ?_
    exact k)
  have pre13 : ∀ t, Steps p.tables e below (s₁.setTop (mkF m 40 #[.val (.long q0_0), .second, .val (.long q0_1), .second, .val (.long q0_2), .second, .val (.long q0_3), .second, .val (.long q0_4), .second, .val (.int p0_5), .val (.int (bI (¬ ((p0_5 &&& (1 : Int32)) = (0 : Int32))))), .val (.int (bI (¬ ((p0_5 &&& (2 : Int32)) = (0 : Int32))))), .unset, .unset, .unset, .unset, .unset, .unset, .unset, .unset, .unset, .unset, .unset, .unset, .unset] [(.int (bI (¬ ((p0_5 &&& (4 : Int32)) = (0 : Int32)))))])) t → Steps p.tables e below (s₁.setTop (entryFrame m #[(.long q0_0), (.long q0_1), (.long q0_2), (.long q0_3), (.long q0_4), (.int p0_5)] maxLocals)) t := fun t k => pre12 t (by
    by_cases hc11 : (p0_5 &&& (4 : Int32)) = (0 : Int32)
    · show Steps p.tables e below (s₁.setTop (mkF m 32 #[.val (.long q0_0), .second, .val (.long q0_1), .second, .val (.long q0_2), .second, .val (.long q0_3), .second, .val (.long q0_4), .second, .val (.int p0_5), .val (.int (bI (¬ ((p0_5 &&& (1 : Int32)) = (0 : Int32))))), .val (.int (bI (¬ ((p0_5 &&& (2 : Int32)) = (0 : Int32))))), .unset, .unset, .unset, .unset, .unset, .unset, .unset, .unset, .unset, .unset, .unset, .unset, .unset] [(.int (p0_5 &&& (4 : Int32)))])) _
      refine XS.ifYes X0.here hx rfl (pc0 := 32) (pc' := 39) rfl (hb hby at_32) rfl ((if0 _ _).trans (teq hc11).1) (by decide) (by decide) ?_
      show Steps p.tables e below (s₁.setTop (mkF m 39 #[.val (.long q0_0), .second, .val (.long q0_1), .second, .val (.long q0_2), .second, .val (.long q0_3), .second, .val (.long q0_4), .second, .val (.int p0_5), .val (.int (bI (¬ ((p0_5 &&& (1 : Int32)) = (0 : Int32))))), .val (.int (bI (¬ ((p0_5 &&& (2 : Int32)) = (0 : Int32))))), .unset, .unset, .unset, .unset, .unset, .unset, .unset, .unset, .unset, .unset, .unset, .unset, .unset] [])) _
      refine XS.iconst X0.here hx rfl (hb hby at_39) ?_
      have q14 : (bI (¬ ((p0_5 &&& (4 : Int32)) = (0 : Int32)))) = (0 : Int32) := (bI_f (fun q => q hc11))
      exact castTop (g := (mkF m 40 #[.val (.long q0_0), .second, .val (.long q0_1), .second, .val (.long q0_2), .second, .val (.long q0_3), .second, .val (.long q0_4), .second, .val (.int p0_5), .val (.int (bI (¬ ((p0_5 &&& (1 : Int32)) = (0 : Int32))))), .val (.int (bI (¬ ((p0_5 &&& (2 : Int32)) = (0 : Int32))))), .unset, .unset, .unset, .unset, .unset, .unset, .unset, .unset, .unset, .unset, .unset, .unset, .unset] [(.int (0 : Int32))])) (g' := (mkF m 40 #[.val (.long q0_0), .second, .val (.long q0_1), .second, .val (.long q0_2), .second, .val (.long q0_3), .second, .val (.long q0_4), .second, .val (.int p0_5), .val (.int (bI (¬ ((p0_5 &&& (1 : Int32)) = (0 : Int32))))), .val (.int (bI (¬ ((p0_5 &&& (2 : Int32)) = (0 : Int32))))), .unset, .unset, .unset, .unset, .unset, .unset, .unset, .unset, .unset, .unset, .unset, .unset, .unset] [(.int (bI (¬ ((p0_5 &&& (4 : Int32)) = (0 : Int32)))))])) (by simp only [q14]) k
    · show Steps p.tables e below (s₁.setTop (mkF m 32 #[.val (.long q0_0), .second, .val (.long q0_1), .second, .val (.long q0_2), .second, .val (.long q0_3), .second, .val (.long q0_4), .second, .val (.int p0_5), .val (.int (bI (¬ ((p0_5 &&& (1 : Int32)) = (0 : Int32))))), .val (.int (bI (¬ ((p0_5 &&& (2 : Int32)) = (0 : Int32))))), .unset, .unset, .unset, .unset, .unset, .unset, .unset, .unset, .unset, .unset, .unset, .unset, .unset] [(.int (p0_5 &&& (4 : Int32)))])) _
      refine XS.ifNo X0.here hx rfl (hb hby at_32) rfl ((if0 _ _).trans (feq hc11).1) ?_
      show Steps p.tables e below (s₁.setTop (mkF m 35 #[.val (.long q0_0), .second, .val (.long q0_1), .second, .val (.long q0_2), .second, .val (.long q0_3), .second, .val (.long q0_4), .second, .val (.int p0_5), .val (.int (bI (¬ ((p0_5 &&& (1 : Int32)) = (0 : Int32))))), .val (.int (bI (¬ ((p0_5 &&& (2 : Int32)) = (0 : Int32))))), .unset, .unset, .unset, .unset, .unset, .unset, .unset, .unset, .unset, .unset, .unset, .unset, .unset] [])) _
      refine XS.iconst X0.here hx rfl (hb hby at_35) ?_
      show Steps p.tables e below (s₁.setTop (mkF m 36 #[.val (.long q0_0), .second, .val (.long q0_1), .second, .val (.long q0_2), .second, .val (.long q0_3), .second, .val (.long q0_4), .second, .val (.int p0_5), .val (.int (bI (¬ ((p0_5 &&& (1 : Int32)) = (0 : Int32))))), .val (.int (bI (¬ ((p0_5 &&& (2 : Int32)) = (0 : Int32))))), .unset, .unset, .unset, .unset, .unset, .unset, .unset, .unset, .unset, .unset, .unset, .unset, .unset] [(.int (1 : Int32))])) _
      refine XS.goto X0.here hx rfl (pc0 := 36) (pc' := 40) rfl (hb hby at_36) (by decide) (by decide) ?_
      have q15 : (bI (¬ ((p0_5 &&& (4 : Int32)) = (0 : Int32)))) = (1 : Int32) := (bI_t hc11)
      exact castTop (g := (mkF m 40 #[.val (.long q0_0), .second, .val (.long q0_1), .second, .val (.long q0_2), .second, .val (.long q0_3), .second, .val (.long q0_4), .second, .val (.int p0_5), .val (.int (bI (¬ ((p0_5 &&& (1 : Int32)) = (0 : Int32))))), .val (.int (bI (¬ ((p0_5 &&& (2 : Int32)) = (0 : Int32))))), .unset, .unset, .unset, .unset, .unset, .unset, .unset, .unset, .unset, .unset, .unset, .unset, .unset] [(.int (1 : Int32))])) (g' := (mkF m 40 #[.val (.long q0_0), .second, .val (.long q0_1), .second, .val (.long q0_2), .second, .val (.long q0_3), .second, .val (.long q0_4), .second, .val (.int p0_5), .val (.int (bI (¬ ((p0_5 &&& (1 : Int32)) = (0 : Int32))))), .val (.int (bI (¬ ((p0_5 &&& (2 : Int32)) = (0 : Int32))))), .unset, .unset, .unset, .unset, .unset, .unset, .unset, .unset, .unset, .unset, .unset, .unset, .unset] [(.int (bI (¬ ((p0_5 &&& (4 : Int32)) = (0 : Int32)))))])) (by simp only [q15]) k)
  have pre17 : ∀ t, Steps p.tables e below (s₁.setTop (mkF m 47 #[.val (.long q0_0), .second, .val (.long q0_1), .second, .val (.long q0_2), .second, .val (.long q0_3), .second, .val (.long q0_4), .second, .val (.int p0_5), .val (.int (bI (¬ ((p0_5 &&& (1 : Int32)) = (0 : Int32))))), .val (.int (bI (¬ ((p0_5 &&& (2 : Int32)) = (0 : Int32))))), .val (.int (bI (¬ ((p0_5 &&& (4 : Int32)) = (0 : Int32))))), .unset, .unset, .unset, .unset, .unset, .unset, .unset, .unset, .unset, .unset, .unset, .unset] [(.int (p0_5 &&& (8 : Int32)))])) t → Steps p.tables e below (s₁.setTop (entryFrame m #[(.long q0_0), (.long q0_1), (.long q0_2), (.long q0_3), (.long q0_4), (.int p0_5)] maxLocals)) t := fun t k => pre13 t (by
    show Steps p.tables e below (s₁.setTop (mkF m 40 #[.val (.long q0_0), .second, .val (.long q0_1), .second, .val (.long q0_2), .second, .val (.long q0_3), .second, .val (.long q0_4), .second, .val (.int p0_5), .val (.int (bI (¬ ((p0_5 &&& (1 : Int32)) = (0 : Int32))))), .val (.int (bI (¬ ((p0_5 &&& (2 : Int32)) = (0 : Int32))))), .unset, .unset, .unset, .unset, .unset, .unset, .unset, .unset, .unset, .unset, .unset, .unset, .unset] [(.int (bI (¬ ((p0_5 &&& (4 : Int32)) = (0 : Int32)))))])) _
    refine XS.istore X0.here hx rfl (hb hby at_40) rfl (l' := #[.val (.long q0_0), .second, .val (.long q0_1), .second, .val (.long q0_2), .second, .val (.long q0_3), .second, .val (.long q0_4), .second, .val (.int p0_5), .val (.int (bI (¬ ((p0_5 &&& (1 : Int32)) = (0 : Int32))))), .val (.int (bI (¬ ((p0_5 &&& (2 : Int32)) = (0 : Int32))))), .val (.int (bI (¬ ((p0_5 &&& (4 : Int32)) = (0 : Int32))))), .unset, .unset, .unset, .unset, .unset, .unset, .unset, .unset, .unset, .unset, .unset, .unset]) rfl ?_
    show Steps p.tables e below (s₁.setTop (mkF m 42 #[.val (.long q0_0), .second, .val (.long q0_1), .second, .val (.long q0_2), .second, .val (.long q0_3), .second, .val (.long q0_4), .second, .val (.int p0_5), .val (.int (bI (¬ ((p0_5 &&& (1 : Int32)) = (0 : Int32))))), .val (.int (bI (¬ ((p0_5 &&& (2 : Int32)) = (0 : Int32))))), .val (.int (bI (¬ ((p0_5 &&& (4 : Int32)) = (0 : Int32))))), .unset, .unset, .unset, .unset, .unset, .unset, .unset, .unset, .unset, .unset, .unset, .unset] [])) _
    refine XS.iload X0.here hx rfl (hb hby at_42) rfl ?_
    show Steps p.tables e below (s₁.setTop (mkF m 44 #[.val (.long q0_0), .second, .val (.long q0_1), .second, .val (.long q0_2), .second, .val (.long q0_3), .second, .val (.long q0_4), .second, .val (.int p0_5), .val (.int (bI (¬ ((p0_5 &&& (1 : Int32)) = (0 : Int32))))), .val (.int (bI (¬ ((p0_5 &&& (2 : Int32)) = (0 : Int32))))), .val (.int (bI (¬ ((p0_5 &&& (4 : Int32)) = (0 : Int32))))), .unset, .unset, .unset, .unset, .unset, .unset, .unset, .unset, .unset, .unset, .unset, .unset] [(.int p0_5)])) _
    refine XS.bipush X0.here hx rfl (hb hby at_44) ?_
    show Steps p.tables e below (s₁.setTop (mkF m 46 #[.val (.long q0_0), .second, .val (.long q0_1), .second, .val (.long q0_2), .second, .val (.long q0_3), .second, .val (.long q0_4), .second, .val (.int p0_5), .val (.int (bI (¬ ((p0_5 &&& (1 : Int32)) = (0 : Int32))))), .val (.int (bI (¬ ((p0_5 &&& (2 : Int32)) = (0 : Int32))))), .val (.int (bI (¬ ((p0_5 &&& (4 : Int32)) = (0 : Int32))))), .unset, .unset, .unset, .unset, .unset, .unset, .unset, .unset, .unset, .unset, .unset, .unset] [(.int (8 : Int32)), (.int p0_5)])) _
    refine XS.iand X0.here hx rfl (hb hby at_46) rfl ?_
    exact k)
  have pre18 : ∀ t, Steps p.tables e below (s₁.setTop (mkF m 55 #[.val (.long q0_0), .second, .val (.long q0_1), .second, .val (.long q0_2), .second, .val (.long q0_3), .second, .val (.long q0_4), .second, .val (.int p0_5), .val (.int (bI (¬ ((p0_5 &&& (1 : Int32)) = (0 : Int32))))), .val (.int (bI (¬ ((p0_5 &&& (2 : Int32)) = (0 : Int32))))), .val (.int (bI (¬ ((p0_5 &&& (4 : Int32)) = (0 : Int32))))), .unset, .unset, .unset, .unset, .unset, .unset, .unset, .unset, .unset, .unset, .unset, .unset] [(.int (bI (¬ ((p0_5 &&& (8 : Int32)) = (0 : Int32)))))])) t → Steps p.tables e below (s₁.setTop (entryFrame m #[(.long q0_0), (.long q0_1), (.long q0_2), (.long q0_3), (.long q0_4), (.int p0_5)] maxLocals)) t := fun t k => pre17 t (by
    by_cases hc16 : (p0_5 &&& (8 : Int32)) = (0 : Int32)
    · show Steps p.tables e below (s₁.setTop (mkF m 47 #[.val (.long q0_0), .second, .val (.long q0_1), .second, .val (.long q0_2), .second, .val (.long q0_3), .second, .val (.long q0_4), .second, .val (.int p0_5), .val (.int (bI (¬ ((p0_5 &&& (1 : Int32)) = (0 : Int32))))), .val (.int (bI (¬ ((p0_5 &&& (2 : Int32)) = (0 : Int32))))), .val (.int (bI (¬ ((p0_5 &&& (4 : Int32)) = (0 : Int32))))), .unset, .unset, .unset, .unset, .unset, .unset, .unset, .unset, .unset, .unset, .unset, .unset] [(.int (p0_5 &&& (8 : Int32)))])) _
      refine XS.ifYes X0.here hx rfl (pc0 := 47) (pc' := 54) rfl (hb hby at_47) rfl ((if0 _ _).trans (teq hc16).1) (by decide) (by decide) ?_
      show Steps p.tables e below (s₁.setTop (mkF m 54 #[.val (.long q0_0), .second, .val (.long q0_1), .second, .val (.long q0_2), .second, .val (.long q0_3), .second, .val (.long q0_4), .second, .val (.int p0_5), .val (.int (bI (¬ ((p0_5 &&& (1 : Int32)) = (0 : Int32))))), .val (.int (bI (¬ ((p0_5 &&& (2 : Int32)) = (0 : Int32))))), .val (.int (bI (¬ ((p0_5 &&& (4 : Int32)) = (0 : Int32))))), .unset, .unset, .unset, .unset, .unset, .unset, .unset, .unset, .unset, .unset, .unset, .unset] [])) _
      refine XS.iconst X0.here hx rfl (hb hby at_54) ?_
      have q19 : (bI (¬ ((p0_5 &&& (8 : Int32)) = (0 : Int32)))) = (0 : Int32) := (bI_f (fun q => q hc16))
      exact castTop (g := (mkF m 55 #[.val (.long q0_0), .second, .val (.long q0_1), .second, .val (.long q0_2), .second, .val (.long q0_3), .second, .val (.long q0_4), .second, .val (.int p0_5), .val (.int (bI (¬ ((p0_5 &&& (1 : Int32)) = (0 : Int32))))), .val (.int (bI (¬ ((p0_5 &&& (2 : Int32)) = (0 : Int32))))), .val (.int (bI (¬ ((p0_5 &&& (4 : Int32)) = (0 : Int32))))), .unset, .unset, .unset, .unset, .unset, .unset, .unset, .unset, .unset, .unset, .unset, .unset] [(.int (0 : Int32))])) (g' := (mkF m 55 #[.val (.long q0_0), .second, .val (.long q0_1), .second, .val (.long q0_2), .second, .val (.long q0_3), .second, .val (.long q0_4), .second, .val (.int p0_5), .val (.int (bI (¬ ((p0_5 &&& (1 : Int32)) = (0 : Int32))))), .val (.int (bI (¬ ((p0_5 &&& (2 : Int32)) = (0 : Int32))))), .val (.int (bI (¬ ((p0_5 &&& (4 : Int32)) = (0 : Int32))))), .unset, .unset, .unset, .unset, .unset, .unset, .unset, .unset, .unset, .unset, .unset, .unset] [(.int (bI (¬ ((p0_5 &&& (8 : Int32)) = (0 : Int32)))))])) (by simp only [q19]) k
    · show Steps p.tables e below (s₁.setTop (mkF m 47 #[.val (.long q0_0), .second, .val (.long q0_1), .second, .val (.long q0_2), .second, .val (.long q0_3), .second, .val (.long q0_4), .second, .val (.int p0_5), .val (.int (bI (¬ ((p0_5 &&& (1 : Int32)) = (0 : Int32))))), .val (.int (bI (¬ ((p0_5 &&& (2 : Int32)) = (0 : Int32))))), .val (.int (bI (¬ ((p0_5 &&& (4 : Int32)) = (0 : Int32))))), .unset, .unset, .unset, .unset, .unset, .unset, .unset, .unset, .unset, .unset, .unset, .unset] [(.int (p0_5 &&& (8 : Int32)))])) _
      refine XS.ifNo X0.here hx rfl (hb hby at_47) rfl ((if0 _ _).trans (feq hc16).1) ?_
      show Steps p.tables e below (s₁.setTop (mkF m 50 #[.val (.long q0_0), .second, .val (.long q0_1), .second, .val (.long q0_2), .second, .val (.long q0_3), .second, .val (.long q0_4), .second, .val (.int p0_5), .val (.int (bI (¬ ((p0_5 &&& (1 : Int32)) = (0 : Int32))))), .val (.int (bI (¬ ((p0_5 &&& (2 : Int32)) = (0 : Int32))))), .val (.int (bI (¬ ((p0_5 &&& (4 : Int32)) = (0 : Int32))))), .unset, .unset, .unset, .unset, .unset, .unset, .unset, .unset, .unset, .unset, .unset, .unset] [])) _
      refine XS.iconst X0.here hx rfl (hb hby at_50) ?_
      show Steps p.tables e below (s₁.setTop (mkF m 51 #[.val (.long q0_0), .second, .val (.long q0_1), .second, .val (.long q0_2), .second, .val (.long q0_3), .second, .val (.long q0_4), .second, .val (.int p0_5), .val (.int (bI (¬ ((p0_5 &&& (1 : Int32)) = (0 : Int32))))), .val (.int (bI (¬ ((p0_5 &&& (2 : Int32)) = (0 : Int32))))), .val (.int (bI (¬ ((p0_5 &&& (4 : Int32)) = (0 : Int32))))), .unset, .unset, .unset, .unset, .unset, .unset, .unset, .unset, .unset, .unset, .unset, .unset] [(.int (1 : Int32))])) _
      refine XS.goto X0.here hx rfl (pc0 := 51) (pc' := 55) rfl (hb hby at_51) (by decide) (by decide) ?_
      have q20 : (bI (¬ ((p0_5 &&& (8 : Int32)) = (0 : Int32)))) = (1 : Int32) := (bI_t hc16)
      exact castTop (g := (mkF m 55 #[.val (.long q0_0), .second, .val (.long q0_1), .second, .val (.long q0_2), .second, .val (.long q0_3), .second, .val (.long q0_4), .second, .val (.int p0_5), .val (.int (bI (¬ ((p0_5 &&& (1 : Int32)) = (0 : Int32))))), .val (.int (bI (¬ ((p0_5 &&& (2 : Int32)) = (0 : Int32))))), .val (.int (bI (¬ ((p0_5 &&& (4 : Int32)) = (0 : Int32))))), .unset, .unset, .unset, .unset, .unset, .unset, .unset, .unset, .unset, .unset, .unset, .unset] [(.int (1 : Int32))])) (g' := (mkF m 55 #[.val (.long q0_0), .second, .val (.long q0_1), .second, .val (.long q0_2), .second, .val (.long q0_3), .second, .val (.long q0_4), .second, .val (.int p0_5), .val (.int (bI (¬ ((p0_5 &&& (1 : Int32)) = (0 : Int32))))), .val (.int (bI (¬ ((p0_5 &&& (2 : Int32)) = (0 : Int32))))), .val (.int (bI (¬ ((p0_5 &&& (4 : Int32)) = (0 : Int32))))), .unset, .unset, .unset, .unset, .unset, .unset, .unset, .unset, .unset, .unset, .unset, .unset] [(.int (bI (¬ ((p0_5 &&& (8 : Int32)) = (0 : Int32)))))])) (by simp only [q20]) k)
  have pre22 : ∀ t, Steps p.tables e below (s₁.setTop (mkF m 59 #[.val (.long q0_0), .second, .val (.long q0_1), .second, .val (.long q0_2), .second, .val (.long q0_3), .second, .val (.long q0_4), .second, .val (.int p0_5), .val (.int (bI (¬ ((p0_5 &&& (1 : Int32)) = (0 : Int32))))), .val (.int (bI (¬ ((p0_5 &&& (2 : Int32)) = (0 : Int32))))), .val (.int (bI (¬ ((p0_5 &&& (4 : Int32)) = (0 : Int32))))), .val (.int (bI (¬ ((p0_5 &&& (8 : Int32)) = (0 : Int32))))), .unset, .unset, .unset, .unset, .unset, .unset, .unset, .unset, .unset, .unset, .unset] [(.int (bI (¬ ((p0_5 &&& (1 : Int32)) = (0 : Int32)))))])) t → Steps p.tables e below (s₁.setTop (entryFrame m #[(.long q0_0), (.long q0_1), (.long q0_2), (.long q0_3), (.long q0_4), (.int p0_5)] maxLocals)) t := fun t k => pre18 t (by
    show Steps p.tables e below (s₁.setTop (mkF m 55 #[.val (.long q0_0), .second, .val (.long q0_1), .second, .val (.long q0_2), .second, .val (.long q0_3), .second, .val (.long q0_4), .second, .val (.int p0_5), .val (.int (bI (¬ ((p0_5 &&& (1 : Int32)) = (0 : Int32))))), .val (.int (bI (¬ ((p0_5 &&& (2 : Int32)) = (0 : Int32))))), .val (.int (bI (¬ ((p0_5 &&& (4 : Int32)) = (0 : Int32))))), .unset, .unset, .unset, .unset, .unset, .unset, .unset, .unset, .unset, .unset, .unset, .unset] [(.int (bI (¬ ((p0_5 &&& (8 : Int32)) = (0 : Int32)))))])) _
    refine XS.istore X0.here hx rfl (hb hby at_55) rfl (l' := #[.val (.long q0_0), .second, .val (.long q0_1), .second, .val (.long q0_2), .second, .val (.long q0_3), .second, .val (.long q0_4), .second, .val (.int p0_5), .val (.int (bI (¬ ((p0_5 &&& (1 : Int32)) = (0 : Int32))))), .val (.int (bI (¬ ((p0_5 &&& (2 : Int32)) = (0 : Int32))))), .val (.int (bI (¬ ((p0_5 &&& (4 : Int32)) = (0 : Int32))))), .val (.int (bI (¬ ((p0_5 &&& (8 : Int32)) = (0 : Int32))))), .unset, .unset, .unset, .unset, .unset, .unset, .unset, .unset, .unset, .unset, .unset]) rfl ?_
    show Steps p.tables e below (s₁.setTop (mkF m 57 #[.val (.long q0_0), .second, .val (.long q0_1), .second, .val (.long q0_2), .second, .val (.long q0_3), .second, .val (.long q0_4), .second, .val (.int p0_5), .val (.int (bI (¬ ((p0_5 &&& (1 : Int32)) = (0 : Int32))))), .val (.int (bI (¬ ((p0_5 &&& (2 : Int32)) = (0 : Int32))))), .val (.int (bI (¬ ((p0_5 &&& (4 : Int32)) = (0 : Int32))))), .val (.int (bI (¬ ((p0_5 &&& (8 : Int32)) = (0 : Int32))))), .unset, .unset, .unset, .unset, .unset, .unset, .unset, .unset, .unset, .unset, .unset] [])) _
    refine XS.iload X0.here hx rfl (hb hby at_57) rfl ?_
    exact k)
  have pre23 : ∀ t, Steps p.tables e below (s₁.setTop (mkF m 68 #[.val (.long q0_0), .second, .val (.long q0_1), .second, .val (.long q0_2), .second, .val (.long q0_3), .second, .val (.long q0_4), .second, .val (.int p0_5), .val (.int (bI (¬ ((p0_5 &&& (1 : Int32)) = (0 : Int32))))), .val (.int (bI (¬ ((p0_5 &&& (2 : Int32)) = (0 : Int32))))), .val (.int (bI (¬ ((p0_5 &&& (4 : Int32)) = (0 : Int32))))), .val (.int (bI (¬ ((p0_5 &&& (8 : Int32)) = (0 : Int32))))), .unset, .unset, .unset, .unset, .unset, .unset, .unset, .unset, .unset, .unset, .unset] [(.long (if ¬ ((p0_5 &&& (1 : Int32)) = (0 : Int32)) then q0_4 else q0_0))])) t → Steps p.tables e below (s₁.setTop (entryFrame m #[(.long q0_0), (.long q0_1), (.long q0_2), (.long q0_3), (.long q0_4), (.int p0_5)] maxLocals)) t := fun t k => pre22 t (by
    by_cases hc21 : ¬ ((p0_5 &&& (1 : Int32)) = (0 : Int32))
    · show Steps p.tables e below (s₁.setTop (mkF m 59 #[.val (.long q0_0), .second, .val (.long q0_1), .second, .val (.long q0_2), .second, .val (.long q0_3), .second, .val (.long q0_4), .second, .val (.int p0_5), .val (.int (bI (¬ ((p0_5 &&& (1 : Int32)) = (0 : Int32))))), .val (.int (bI (¬ ((p0_5 &&& (2 : Int32)) = (0 : Int32))))), .val (.int (bI (¬ ((p0_5 &&& (4 : Int32)) = (0 : Int32))))), .val (.int (bI (¬ ((p0_5 &&& (8 : Int32)) = (0 : Int32))))), .unset, .unset, .unset, .unset, .unset, .unset, .unset, .unset, .unset, .unset, .unset] [(.int (bI (¬ ((p0_5 &&& (1 : Int32)) = (0 : Int32)))))])) _
      refine XS.ifNo X0.here hx rfl (hb hby at_59) rfl ((if0 _ _).trans (feq (bI_n hc21)).1) ?_
      show Steps p.tables e below (s₁.setTop (mkF m 62 #[.val (.long q0_0), .second, .val (.long q0_1), .second, .val (.long q0_2), .second, .val (.long q0_3), .second, .val (.long q0_4), .second, .val (.int p0_5), .val (.int (bI (¬ ((p0_5 &&& (1 : Int32)) = (0 : Int32))))), .val (.int (bI (¬ ((p0_5 &&& (2 : Int32)) = (0 : Int32))))), .val (.int (bI (¬ ((p0_5 &&& (4 : Int32)) = (0 : Int32))))), .val (.int (bI (¬ ((p0_5 &&& (8 : Int32)) = (0 : Int32))))), .unset, .unset, .unset, .unset, .unset, .unset, .unset, .unset, .unset, .unset, .unset] [])) _
      refine XS.lload X0.here hx rfl (hb hby at_62) rfl ?_
      show Steps p.tables e below (s₁.setTop (mkF m 64 #[.val (.long q0_0), .second, .val (.long q0_1), .second, .val (.long q0_2), .second, .val (.long q0_3), .second, .val (.long q0_4), .second, .val (.int p0_5), .val (.int (bI (¬ ((p0_5 &&& (1 : Int32)) = (0 : Int32))))), .val (.int (bI (¬ ((p0_5 &&& (2 : Int32)) = (0 : Int32))))), .val (.int (bI (¬ ((p0_5 &&& (4 : Int32)) = (0 : Int32))))), .val (.int (bI (¬ ((p0_5 &&& (8 : Int32)) = (0 : Int32))))), .unset, .unset, .unset, .unset, .unset, .unset, .unset, .unset, .unset, .unset, .unset] [(.long q0_4)])) _
      refine XS.goto X0.here hx rfl (pc0 := 64) (pc' := 68) rfl (hb hby at_64) (by decide) (by decide) ?_
      have q24 : (if ¬ ((p0_5 &&& (1 : Int32)) = (0 : Int32)) then q0_4 else q0_0) = q0_4 := (if_pos hc21)
      exact castTop (g := (mkF m 68 #[.val (.long q0_0), .second, .val (.long q0_1), .second, .val (.long q0_2), .second, .val (.long q0_3), .second, .val (.long q0_4), .second, .val (.int p0_5), .val (.int (bI (¬ ((p0_5 &&& (1 : Int32)) = (0 : Int32))))), .val (.int (bI (¬ ((p0_5 &&& (2 : Int32)) = (0 : Int32))))), .val (.int (bI (¬ ((p0_5 &&& (4 : Int32)) = (0 : Int32))))), .val (.int (bI (¬ ((p0_5 &&& (8 : Int32)) = (0 : Int32))))), .unset, .unset, .unset, .unset, .unset, .unset, .unset, .unset, .unset, .unset, .unset] [(.long q0_4)])) (g' := (mkF m 68 #[.val (.long q0_0), .second, .val (.long q0_1), .second, .val (.long q0_2), .second, .val (.long q0_3), .second, .val (.long q0_4), .second, .val (.int p0_5), .val (.int (bI (¬ ((p0_5 &&& (1 : Int32)) = (0 : Int32))))), .val (.int (bI (¬ ((p0_5 &&& (2 : Int32)) = (0 : Int32))))), .val (.int (bI (¬ ((p0_5 &&& (4 : Int32)) = (0 : Int32))))), .val (.int (bI (¬ ((p0_5 &&& (8 : Int32)) = (0 : Int32))))), .unset, .unset, .unset, .unset, .unset, .unset, .unset, .unset, .unset, .unset, .unset] [(.long (if ¬ ((p0_5 &&& (1 : Int32)) = (0 : Int32)) then q0_4 else q0_0))])) (by simp only [q24]) k
    · show Steps p.tables e below (s₁.setTop (mkF m 59 #[.val (.long q0_0), .second, .val (.long q0_1), .second, .val (.long q0_2), .second, .val (.long q0_3), .second, .val (.long q0_4), .second, .val (.int p0_5), .val (.int (bI (¬ ((p0_5 &&& (1 : Int32)) = (0 : Int32))))), .val (.int (bI (¬ ((p0_5 &&& (2 : Int32)) = (0 : Int32))))), .val (.int (bI (¬ ((p0_5 &&& (4 : Int32)) = (0 : Int32))))), .val (.int (bI (¬ ((p0_5 &&& (8 : Int32)) = (0 : Int32))))), .unset, .unset, .unset, .unset, .unset, .unset, .unset, .unset, .unset, .unset, .unset] [(.int (bI (¬ ((p0_5 &&& (1 : Int32)) = (0 : Int32)))))])) _
      refine XS.ifYes X0.here hx rfl (pc0 := 59) (pc' := 67) rfl (hb hby at_59) rfl ((if0 _ _).trans (teq (bI_f hc21)).1) (by decide) (by decide) ?_
      show Steps p.tables e below (s₁.setTop (mkF m 67 #[.val (.long q0_0), .second, .val (.long q0_1), .second, .val (.long q0_2), .second, .val (.long q0_3), .second, .val (.long q0_4), .second, .val (.int p0_5), .val (.int (bI (¬ ((p0_5 &&& (1 : Int32)) = (0 : Int32))))), .val (.int (bI (¬ ((p0_5 &&& (2 : Int32)) = (0 : Int32))))), .val (.int (bI (¬ ((p0_5 &&& (4 : Int32)) = (0 : Int32))))), .val (.int (bI (¬ ((p0_5 &&& (8 : Int32)) = (0 : Int32))))), .unset, .unset, .unset, .unset, .unset, .unset, .unset, .unset, .unset, .unset, .unset] [])) _
      refine XS.lloadN X0.here hx rfl (hb hby at_67) rfl ?_
      have q25 : (if ¬ ((p0_5 &&& (1 : Int32)) = (0 : Int32)) then q0_4 else q0_0) = q0_0 := (if_neg hc21)
      exact castTop (g := (mkF m 68 #[.val (.long q0_0), .second, .val (.long q0_1), .second, .val (.long q0_2), .second, .val (.long q0_3), .second, .val (.long q0_4), .second, .val (.int p0_5), .val (.int (bI (¬ ((p0_5 &&& (1 : Int32)) = (0 : Int32))))), .val (.int (bI (¬ ((p0_5 &&& (2 : Int32)) = (0 : Int32))))), .val (.int (bI (¬ ((p0_5 &&& (4 : Int32)) = (0 : Int32))))), .val (.int (bI (¬ ((p0_5 &&& (8 : Int32)) = (0 : Int32))))), .unset, .unset, .unset, .unset, .unset, .unset, .unset, .unset, .unset, .unset, .unset] [(.long q0_0)])) (g' := (mkF m 68 #[.val (.long q0_0), .second, .val (.long q0_1), .second, .val (.long q0_2), .second, .val (.long q0_3), .second, .val (.long q0_4), .second, .val (.int p0_5), .val (.int (bI (¬ ((p0_5 &&& (1 : Int32)) = (0 : Int32))))), .val (.int (bI (¬ ((p0_5 &&& (2 : Int32)) = (0 : Int32))))), .val (.int (bI (¬ ((p0_5 &&& (4 : Int32)) = (0 : Int32))))), .val (.int (bI (¬ ((p0_5 &&& (8 : Int32)) = (0 : Int32))))), .unset, .unset, .unset, .unset, .unset, .unset, .unset, .unset, .unset, .unset, .unset] [(.long (if ¬ ((p0_5 &&& (1 : Int32)) = (0 : Int32)) then q0_4 else q0_0))])) (by simp only [q25]) k)
  have pre27 : ∀ t, Steps p.tables e below (s₁.setTop (mkF m 72 #[.val (.long q0_0), .second, .val (.long q0_1), .second, .val (.long q0_2), .second, .val (.long q0_3), .second, .val (.long q0_4), .second, .val (.int p0_5), .val (.int (bI (¬ ((p0_5 &&& (1 : Int32)) = (0 : Int32))))), .val (.int (bI (¬ ((p0_5 &&& (2 : Int32)) = (0 : Int32))))), .val (.int (bI (¬ ((p0_5 &&& (4 : Int32)) = (0 : Int32))))), .val (.int (bI (¬ ((p0_5 &&& (8 : Int32)) = (0 : Int32))))), .val (.long (if ¬ ((p0_5 &&& (1 : Int32)) = (0 : Int32)) then q0_4 else q0_0)), .second, .unset, .unset, .unset, .unset, .unset, .unset, .unset, .unset, .unset] [(.int (bI (¬ ((p0_5 &&& (2 : Int32)) = (0 : Int32)))))])) t → Steps p.tables e below (s₁.setTop (entryFrame m #[(.long q0_0), (.long q0_1), (.long q0_2), (.long q0_3), (.long q0_4), (.int p0_5)] maxLocals)) t := fun t k => pre23 t (by
    show Steps p.tables e below (s₁.setTop (mkF m 68 #[.val (.long q0_0), .second, .val (.long q0_1), .second, .val (.long q0_2), .second, .val (.long q0_3), .second, .val (.long q0_4), .second, .val (.int p0_5), .val (.int (bI (¬ ((p0_5 &&& (1 : Int32)) = (0 : Int32))))), .val (.int (bI (¬ ((p0_5 &&& (2 : Int32)) = (0 : Int32))))), .val (.int (bI (¬ ((p0_5 &&& (4 : Int32)) = (0 : Int32))))), .val (.int (bI (¬ ((p0_5 &&& (8 : Int32)) = (0 : Int32))))), .unset, .unset, .unset, .unset, .unset, .unset, .unset, .unset, .unset, .unset, .unset] [(.long (if ¬ ((p0_5 &&& (1 : Int32)) = (0 : Int32)) then q0_4 else q0_0))])) _
    refine XS.lstore X0.here hx rfl (hb hby at_68) rfl (l' := #[.val (.long q0_0), .second, .val (.long q0_1), .second, .val (.long q0_2), .second, .val (.long q0_3), .second, .val (.long q0_4), .second, .val (.int p0_5), .val (.int (bI (¬ ((p0_5 &&& (1 : Int32)) = (0 : Int32))))), .val (.int (bI (¬ ((p0_5 &&& (2 : Int32)) = (0 : Int32))))), .val (.int (bI (¬ ((p0_5 &&& (4 : Int32)) = (0 : Int32))))), .val (.int (bI (¬ ((p0_5 &&& (8 : Int32)) = (0 : Int32))))), .val (.long (if ¬ ((p0_5 &&& (1 : Int32)) = (0 : Int32)) then q0_4 else q0_0)), .second, .unset, .unset, .unset, .unset, .unset, .unset, .unset, .unset, .unset]) rfl ?_
    show Steps p.tables e below (s₁.setTop (mkF m 70 #[.val (.long q0_0), .second, .val (.long q0_1), .second, .val (.long q0_2), .second, .val (.long q0_3), .second, .val (.long q0_4), .second, .val (.int p0_5), .val (.int (bI (¬ ((p0_5 &&& (1 : Int32)) = (0 : Int32))))), .val (.int (bI (¬ ((p0_5 &&& (2 : Int32)) = (0 : Int32))))), .val (.int (bI (¬ ((p0_5 &&& (4 : Int32)) = (0 : Int32))))), .val (.int (bI (¬ ((p0_5 &&& (8 : Int32)) = (0 : Int32))))), .val (.long (if ¬ ((p0_5 &&& (1 : Int32)) = (0 : Int32)) then q0_4 else q0_0)), .second, .unset, .unset, .unset, .unset, .unset, .unset, .unset, .unset, .unset] [])) _
    refine XS.iload X0.here hx rfl (hb hby at_70) rfl ?_
    exact k)
  have pre28 : ∀ t, Steps p.tables e below (s₁.setTop (mkF m 81 #[.val (.long q0_0), .second, .val (.long q0_1), .second, .val (.long q0_2), .second, .val (.long q0_3), .second, .val (.long q0_4), .second, .val (.int p0_5), .val (.int (bI (¬ ((p0_5 &&& (1 : Int32)) = (0 : Int32))))), .val (.int (bI (¬ ((p0_5 &&& (2 : Int32)) = (0 : Int32))))), .val (.int (bI (¬ ((p0_5 &&& (4 : Int32)) = (0 : Int32))))), .val (.int (bI (¬ ((p0_5 &&& (8 : Int32)) = (0 : Int32))))), .val (.long (if ¬ ((p0_5 &&& (1 : Int32)) = (0 : Int32)) then q0_4 else q0_0)), .second, .unset, .unset, .unset, .unset, .unset, .unset, .unset, .unset, .unset] [(.long (if ¬ ((p0_5 &&& (2 : Int32)) = (0 : Int32)) then q0_4 else q0_1))])) t → Steps p.tables e below (s₁.setTop (entryFrame m #[(.long q0_0), (.long q0_1), (.long q0_2), (.long q0_3), (.long q0_4), (.int p0_5)] maxLocals)) t := fun t k => pre27 t (by
    by_cases hc26 : ¬ ((p0_5 &&& (2 : Int32)) = (0 : Int32))
    · show Steps p.tables e below (s₁.setTop (mkF m 72 #[.val (.long q0_0), .second, .val (.long q0_1), .second, .val (.long q0_2), .second, .val (.long q0_3), .second, .val (.long q0_4), .second, .val (.int p0_5), .val (.int (bI (¬ ((p0_5 &&& (1 : Int32)) = (0 : Int32))))), .val (.int (bI (¬ ((p0_5 &&& (2 : Int32)) = (0 : Int32))))), .val (.int (bI (¬ ((p0_5 &&& (4 : Int32)) = (0 : Int32))))), .val (.int (bI (¬ ((p0_5 &&& (8 : Int32)) = (0 : Int32))))), .val (.long (if ¬ ((p0_5 &&& (1 : Int32)) = (0 : Int32)) then q0_4 else q0_0)), .second, .unset, .unset, .unset, .unset, .unset, .unset, .unset, .unset, .unset] [(.int (bI (¬ ((p0_5 &&& (2 : Int32)) = (0 : Int32)))))])) _
      refine XS.ifNo X0.here hx rfl (hb hby at_72) rfl ((if0 _ _).trans (feq (bI_n hc26)).1) ?_
      show Steps p.tables e below (s₁.setTop (mkF m 75 #[.val (.long q0_0), .second, .val (.long q0_1), .second, .val (.long q0_2), .second, .val (.long q0_3), .second, .val (.long q0_4), .second, .val (.int p0_5), .val (.int (bI (¬ ((p0_5 &&& (1 : Int32)) = (0 : Int32))))), .val (.int (bI (¬ ((p0_5 &&& (2 : Int32)) = (0 : Int32))))), .val (.int (bI (¬ ((p0_5 &&& (4 : Int32)) = (0 : Int32))))), .val (.int (bI (¬ ((p0_5 &&& (8 : Int32)) = (0 : Int32))))), .val (.long (if ¬ ((p0_5 &&& (1 : Int32)) = (0 : Int32)) then q0_4 else q0_0)), .second, .unset, .unset, .unset, .unset, .unset, .unset, .unset, .unset, .unset] [])) _
      refine XS.lload X0.here hx rfl (hb hby at_75) rfl ?_
      show Steps p.tables e below (s₁.setTop (mkF m 77 #[.val (.long q0_0), .second, .val (.long q0_1), .second, .val (.long q0_2), .second, .val (.long q0_3), .second, .val (.long q0_4), .second, .val (.int p0_5), .val (.int (bI (¬ ((p0_5 &&& (1 : Int32)) = (0 : Int32))))), .val (.int (bI (¬ ((p0_5 &&& (2 : Int32)) = (0 : Int32))))), .val (.int (bI (¬ ((p0_5 &&& (4 : Int32)) = (0 : Int32))))), .val (.int (bI (¬ ((p0_5 &&& (8 : Int32)) = (0 : Int32))))), .val (.long (if ¬ ((p0_5 &&& (1 : Int32)) = (0 : Int32)) then q0_4 else q0_0)), .second, .unset, .unset, .unset, .unset, .unset, .unset, .unset, .unset, .unset] [(.long q0_4)])) _
      refine XS.goto X0.here hx rfl (pc0 := 77) (pc' := 81) rfl (hb hby at_77) (by decide) (by decide) ?_
      have q29 : (if ¬ ((p0_5 &&& (2 : Int32)) = (0 : Int32)) then q0_4 else q0_1) = q0_4 := (if_pos hc26)
      exact castTop (g := (mkF m 81 #[.val (.long q0_0), .second, .val (.long q0_1), .second, .val (.long q0_2), .second, .val (.long q0_3), .second, .val (.long q0_4), .second, .val (.int p0_5), .val (.int (bI (¬ ((p0_5 &&& (1 : Int32)) = (0 : Int32))))), .val (.int (bI (¬ ((p0_5 &&& (2 : Int32)) = (0 : Int32))))), .val (.int (bI (¬ ((p0_5 &&& (4 : Int32)) = (0 : Int32))))), .val (.int (bI (¬ ((p0_5 &&& (8 : Int32)) = (0 : Int32))))), .val (.long (if ¬ ((p0_5 &&& (1 : Int32)) = (0 : Int32)) then q0_4 else q0_0)), .second, .unset, .unset, .unset, .unset, .unset, .unset, .unset, .unset, .unset] [(.long q0_4)])) (g' := (mkF m 81 #[.val (.long q0_0), .second, .val (.long q0_1), .second, .val (.long q0_2), .second, .val (.long q0_3), .second, .val (.long q0_4), .second, .val (.int p0_5), .val (.int (bI (¬ ((p0_5 &&& (1 : Int32)) = (0 : Int32))))), .val (.int (bI (¬ ((p0_5 &&& (2 : Int32)) = (0 : Int32))))), .val (.int (bI (¬ ((p0_5 &&& (4 : Int32)) = (0 : Int32))))), .val (.int (bI (¬ ((p0_5 &&& (8 : Int32)) = (0 : Int32))))), .val (.long (if ¬ ((p0_5 &&& (1 : Int32)) = (0 : Int32)) then q0_4 else q0_0)), .second, .unset, .unset, .unset, .unset, .unset, .unset, .unset, .unset, .unset] [(.long (if ¬ ((p0_5 &&& (2 : Int32)) = (0 : Int32)) then q0_4 else q0_1))])) (by simp only [q29]) k
    · show Steps p.tables e below (s₁.setTop (mkF m 72 #[.val (.long q0_0), .second, .val (.long q0_1), .second, .val (.long q0_2), .second, .val (.long q0_3), .second, .val (.long q0_4), .second, .val (.int p0_5), .val (.int (bI (¬ ((p0_5 &&& (1 : Int32)) = (0 : Int32))))), .val (.int (bI (¬ ((p0_5 &&& (2 : Int32)) = (0 : Int32))))), .val (.int (bI (¬ ((p0_5 &&& (4 : Int32)) = (0 : Int32))))), .val (.int (bI (¬ ((p0_5 &&& (8 : Int32)) = (0 : Int32))))), .val (.long (if ¬ ((p0_5 &&& (1 : Int32)) = (0 : Int32)) then q0_4 else q0_0)), .second, .unset, .unset, .unset, .unset, .unset, .unset, .unset, .unset, .unset] [(.int (bI (¬ ((p0_5 &&& (2 : Int32)) = (0 : Int32)))))])) _
      refine XS.ifYes X0.here hx rfl (pc0 := 72) (pc' := 80) rfl (hb hby at_72) rfl ((if0 _ _).trans (teq (bI_f hc26)).1) (by decide) (by decide) ?_
      show Steps p.tables e below (s₁.setTop (mkF m 80 #[.val (.long q0_0), .second, .val (.long q0_1), .second, .val (.long q0_2), .second, .val (.long q0_3), .second, .val (.long q0_4), .second, .val (.int p0_5), .val (.int (bI (¬ ((p0_5 &&& (1 : Int32)) = (0 : Int32))))), .val (.int (bI (¬ ((p0_5 &&& (2 : Int32)) = (0 : Int32))))), .val (.int (bI (¬ ((p0_5 &&& (4 : Int32)) = (0 : Int32))))), .val (.int (bI (¬ ((p0_5 &&& (8 : Int32)) = (0 : Int32))))), .val (.long (if ¬ ((p0_5 &&& (1 : Int32)) = (0 : Int32)) then q0_4 else q0_0)), .second, .unset, .unset, .unset, .unset, .unset, .unset, .unset, .unset, .unset] [])) _
      refine XS.lloadN X0.here hx rfl (hb hby at_80) rfl ?_
      have q30 : (if ¬ ((p0_5 &&& (2 : Int32)) = (0 : Int32)) then q0_4 else q0_1) = q0_1 := (if_neg hc26)
      exact castTop (g := (mkF m 81 #[.val (.long q0_0), .second, .val (.long q0_1), .second, .val (.long q0_2), .second, .val (.long q0_3), .second, .val (.long q0_4), .second, .val (.int p0_5), .val (.int (bI (¬ ((p0_5 &&& (1 : Int32)) = (0 : Int32))))), .val (.int (bI (¬ ((p0_5 &&& (2 : Int32)) = (0 : Int32))))), .val (.int (bI (¬ ((p0_5 &&& (4 : Int32)) = (0 : Int32))))), .val (.int (bI (¬ ((p0_5 &&& (8 : Int32)) = (0 : Int32))))), .val (.long (if ¬ ((p0_5 &&& (1 : Int32)) = (0 : Int32)) then q0_4 else q0_0)), .second, .unset, .unset, .unset, .unset, .unset, .unset, .unset, .unset, .unset] [(.long q0_1)])) (g' := (mkF m 81 #[.val (.long q0_0), .second, .val (.long q0_1), .second, .val (.long q0_2), .second, .val (.long q0_3), .second, .val (.long q0_4), .second, .val (.int p0_5), .val (.int (bI (¬ ((p0_5 &&& (1 : Int32)) = (0 : Int32))))), .val (.int (bI (¬ ((p0_5 &&& (2 : Int32)) = (0 : Int32))))), .val (.int (bI (¬ ((p0_5 &&& (4 : Int32)) = (0 : Int32))))), .val (.int (bI (¬ ((p0_5 &&& (8 : Int32)) = (0 : Int32))))), .val (.long (if ¬ ((p0_5 &&& (1 : Int32)) = (0 : Int32)) then q0_4 else q0_0)), .second, .unset, .unset, .unset, .unset, .unset, .unset, .unset, .unset, .unset] [(.long (if ¬ ((p0_5 &&& (2 : Int32)) = (0 : Int32)) then q0_4 else q0_1))])) (by simp only [q30]) k)
  have pre32 : ∀ t, Steps p.tables e below (s₁.setTop (mkF m 85 #[.val (.long q0_0), .second, .val (.long q0_1), .second, .val (.long q0_2), .second, .val (.long q0_3), .second, .val (.long q0_4), .second, .val (.int p0_5), .val (.int (bI (¬ ((p0_5 &&& (1 : Int32)) = (0 : Int32))))), .val (.int (bI (¬ ((p0_5 &&& (2 : Int32)) = (0 : Int32))))), .val (.int (bI (¬ ((p0_5 &&& (4 : Int32)) = (0 : Int32))))), .val (.int (bI (¬ ((p0_5 &&& (8 : Int32)) = (0 : Int32))))), .val (.long (if ¬ ((p0_5 &&& (1 : Int32)) = (0 : Int32)) then q0_4 else q0_0)), .second, .val (.long (if ¬ ((p0_5 &&& (2 : Int32)) = (0 : Int32)) then q0_4 else q0_1)), .second, .unset, .unset, .unset, .unset, .unset, .unset, .unset] [(.int (bI (¬ ((p0_5 &&& (4 : Int32)) = (0 : Int32)))))])) t → Steps p.tables e below (s₁.setTop (entryFrame m #[(.long q0_0), (.long q0_1), (.long q0_2), (.long q0_3), (.long q0_4), (.int p0_5)] maxLocals)) t := fun t k => pre28 t (by
    show Steps p.tables e below (s₁.setTop (mkF m 81 #[.val (.long q0_0), .second, .val (.long q0_1), .second, .val (.long q0_2), .second, .val (.long q0_3), .second, .val (.long q0_4), .second, .val (.int p0_5), .val (.int (bI (¬ ((p0_5 &&& (1 : Int32)) = (0 : Int32))))), .val (.int (bI (¬ ((p0_5 &&& (2 : Int32)) = (0 : Int32))))), .val (.int (bI (¬ ((p0_5 &&& (4 : Int32)) = (0 : Int32))))), .val (.int (bI (¬ ((p0_5 &&& (8 : Int32)) = (0 : Int32))))), .val (.long (if ¬ ((p0_5 &&& (1 : Int32)) = (0 : Int32)) then q0_4 else q0_0)), .second, .unset, .unset, .unset, .unset, .unset, .unset, .unset, .unset, .unset] [(.long (if ¬ ((p0_5 &&& (2 : Int32)) = (0 : Int32)) then q0_4 else q0_1))])) _
    refine XS.lstore X0.here hx rfl (hb hby at_81) rfl (l' := #[.val (.long q0_0), .second, .val (.long q0_1), .second, .val (.long q0_2), .second, .val (.long q0_3), .second, .val (.long q0_4), .second, .val (.int p0_5), .val (.int (bI (¬ ((p0_5 &&& (1 : Int32)) = (0 : Int32))))), .val (.int (bI (¬ ((p0_5 &&& (2 : Int32)) = (0 : Int32))))), .val (.int (bI (¬ ((p0_5 &&& (4 : Int32)) = (0 : Int32))))), .val (.int (bI (¬ ((p0_5 &&& (8 : Int32)) = (0 : Int32))))), .val (.long (if ¬ ((p0_5 &&& (1 : Int32)) = (0 : Int32)) then q0_4 else q0_0)), .second, .val (.long (if ¬ ((p0_5 &&& (2 : Int32)) = (0 : Int32)) then q0_4 else q0_1)), .second, .unset, .unset, .unset, .unset, .unset, .unset, .unset]) rfl ?_
    show Steps p.tables e below (s₁.setTop (mkF m 83 #[.val (.long q0_0), .second, .val (.long q0_1), .second, .val (.long q0_2), .second, .val (.long q0_3), .second, .val (.long q0_4), .second, .val (.int p0_5), .val (.int (bI (¬ ((p0_5 &&& (1 : Int32)) = (0 : Int32))))), .val (.int (bI (¬ ((p0_5 &&& (2 : Int32)) = (0 : Int32))))), .val (.int (bI (¬ ((p0_5 &&& (4 : Int32)) = (0 : Int32))))), .val (.int (bI (¬ ((p0_5 &&& (8 : Int32)) = (0 : Int32))))), .val (.long (if ¬ ((p0_5 &&& (1 : Int32)) = (0 : Int32)) then q0_4 else q0_0)), .second, .val (.long (if ¬ ((p0_5 &&& (2 : Int32)) = (0 : Int32)) then q0_4 else q0_1)), .second, .unset, .unset, .unset, .unset, .unset, .unset, .unset] [])) _
    refine XS.iload X0.here hx rfl (hb hby at_83) rfl ?_
    exact k)
  have pre33 : ∀ t, Steps p.tables e below (s₁.setTop (mkF m 95 #[.val (.long q0_0), .second, .val (.long q0_1), .second, .val (.long q0_2), .second, .val (.long q0_3), .second, .val (.long q0_4), .second, .val (.int p0_5), .val (.int (bI (¬ ((p0_5 &&& (1 : Int32)) = (0 : Int32))))), .val (.int (bI (¬ ((p0_5 &&& (2 : Int32)) = (0 : Int32))))), .val (.int (bI (¬ ((p0_5 &&& (4 : Int32)) = (0 : Int32))))), .val (.int (bI (¬ ((p0_5 &&& (8 : Int32)) = (0 : Int32))))), .val (.long (if ¬ ((p0_5 &&& (1 : Int32)) = (0 : Int32)) then q0_4 else q0_0)), .second, .val (.long (if ¬ ((p0_5 &&& (2 : Int32)) = (0 : Int32)) then q0_4 else q0_1)), .second, .unset, .unset, .unset, .unset, .unset, .unset, .unset] [(.long (if ¬ ((p0_5 &&& (4 : Int32)) = (0 : Int32)) then q0_4 else q0_2))])) t → Steps p.tables e below (s₁.setTop (entryFrame m #[(.long q0_0), (.long q0_1), (.long q0_2), (.long q0_3), (.long q0_4), (.int p0_5)] maxLocals)) t := fun t k => pre32 t (by
    by_cases hc31 : ¬ ((p0_5 &&& (4 : Int32)) = (0 : Int32))
    · show Steps p.tables e below (s₁.setTop (mkF m 85 #[.val (.long q0_0), .second, .val (.long q0_1), .second, .val (.long q0_2), .second, .val (.long q0_3), .second, .val (.long q0_4), .second, .val (.int p0_5), .val (.int (bI (¬ ((p0_5 &&& (1 : Int32)) = (0 : Int32))))), .val (.int (bI (¬ ((p0_5 &&& (2 : Int32)) = (0 : Int32))))), .val (.int (bI (¬ ((p0_5 &&& (4 : Int32)) = (0 : Int32))))), .val (.int (bI (¬ ((p0_5 &&& (8 : Int32)) = (0 : Int32))))), .val (.long (if ¬ ((p0_5 &&& (1 : Int32)) = (0 : Int32)) then q0_4 else q0_0)), .second, .val (.long (if ¬ ((p0_5 &&& (2 : Int32)) = (0 : Int32)) then q0_4 else q0_1)), .second, .unset, .unset, .unset, .unset, .unset, .unset, .unset] [(.int (bI (¬ ((p0_5 &&& (4 : Int32)) = (0 : Int32)))))])) _
      refine XS.ifNo X0.here hx rfl (hb hby at_85) rfl ((if0 _ _).trans (feq (bI_n hc31)).1) ?_
      show Steps p.tables e below (s₁.setTop (mkF m 88 #[.val (.long q0_0), .second, .val (.long q0_1), .second, .val (.long q0_2), .second, .val (.long q0_3), .second, .val (.long q0_4), .second, .val (.int p0_5), .val (.int (bI (¬ ((p0_5 &&& (1 : Int32)) = (0 : Int32))))), .val (.int (bI (¬ ((p0_5 &&& (2 : Int32)) = (0 : Int32))))), .val (.int (bI (¬ ((p0_5 &&& (4 : Int32)) = (0 : Int32))))), .val (.int (bI (¬ ((p0_5 &&& (8 : Int32)) = (0 : Int32))))), .val (.long (if ¬ ((p0_5 &&& (1 : Int32)) = (0 : Int32)) then q0_4 else q0_0)), .second, .val (.long (if ¬ ((p0_5 &&& (2 : Int32)) = (0 : Int32)) then q0_4 else q0_1)), .second, .unset, .unset, .unset, .unset, .unset, .unset, .unset] [])) _
      refine XS.lload X0.here hx rfl (hb hby at_88) rfl ?_
      show Steps p.tables e below (s₁.setTop (mkF m 90 #[.val (.long q0_0), .second, .val (.long q0_1), .second, .val (.long q0_2), .second, .val (.long q0_3), .second, .val (.long q0_4), .second, .val (.int p0_5), .val (.int (bI (¬ ((p0_5 &&& (1 : Int32)) = (0 : Int32))))), .val (.int (bI (¬ ((p0_5 &&& (2 : Int32)) = (0 : Int32))))), .val (.int (bI (¬ ((p0_5 &&& (4 : Int32)) = (0 : Int32))))), .val (.int (bI (¬ ((p0_5 &&& (8 : Int32)) = (0 : Int32))))), .val (.long (if ¬ ((p0_5 &&& (1 : Int32)) = (0 : Int32)) then q0_4 else q0_0)), .second, .val (.long (if ¬ ((p0_5 &&& (2 : Int32)) = (0 : Int32)) then q0_4 else q0_1)), .second, .unset, .unset, .unset, .unset, .unset, .unset, .unset] [(.long q0_4)])) _
      refine XS.goto X0.here hx rfl (pc0 := 90) (pc' := 95) rfl (hb hby at_90) (by decide) (by decide) ?_
      have q34 : (if ¬ ((p0_5 &&& (4 : Int32)) = (0 : Int32)) then q0_4 else q0_2) = q0_4 := (if_pos hc31)
      exact castTop (g := (mkF m 95 #[.val (.long q0_0), .second, .val (.long q0_1), .second, .val (.long q0_2), .second, .val (.long q0_3), .second, .val (.long q0_4), .second, .val (.int p0_5), .val (.int (bI (¬ ((p0_5 &&& (1 : Int32)) = (0 : Int32))))), .val (.int (bI (¬ ((p0_5 &&& (2 : Int32)) = (0 : Int32))))), .val (.int (bI (¬ ((p0_5 &&& (4 : Int32)) = (0 : Int32))))), .val (.int (bI (¬ ((p0_5 &&& (8 : Int32)) = (0 : Int32))))), .val (.long (if ¬ ((p0_5 &&& (1 : Int32)) = (0 : Int32)) then q0_4 else q0_0)), .second, .val (.long (if ¬ ((p0_5 &&& (2 : Int32)) = (0 : Int32)) then q0_4 else q0_1)), .second, .unset, .unset, .unset, .unset, .unset, .unset, .unset] [(.long q0_4)])) (g' := (mkF m 95 #[.val (.long q0_0), .second, .val (.long q0_1), .second, .val (.long q0_2), .second, .val (.long q0_3), .second, .val (.long q0_4), .second, .val (.int p0_5), .val (.int (bI (¬ ((p0_5 &&& (1 : Int32)) = (0 : Int32))))), .val (.int (bI (¬ ((p0_5 &&& (2 : Int32)) = (0 : Int32))))), .val (.int (bI (¬ ((p0_5 &&& (4 : Int32)) = (0 : Int32))))), .val (.int (bI (¬ ((p0_5 &&& (8 : Int32)) = (0 : Int32))))), .val (.long (if ¬ ((p0_5 &&& (1 : Int32)) = (0 : Int32)) then q0_4 else q0_0)), .second, .val (.long (if ¬ ((p0_5 &&& (2 : Int32)) = (0 : Int32)) then q0_4 else q0_1)), .second, .unset, .unset, .unset, .unset, .unset, .unset, .unset] [(.long (if ¬ ((p0_5 &&& (4 : Int32)) = (0 : Int32)) then q0_4 else q0_2))])) (by simp only [q34]) k
    · show Steps p.tables e below (s₁.setTop (mkF m 85 #[.val (.long q0_0), .second, .val (.long q0_1), .second, .val (.long q0_2), .second, .val (.long q0_3), .second, .val (.long q0_4), .second, .val (.int p0_5), .val (.int (bI (¬ ((p0_5 &&& (1 : Int32)) = (0 : Int32))))), .val (.int (bI (¬ ((p0_5 &&& (2 : Int32)) = (0 : Int32))))), .val (.int (bI (¬ ((p0_5 &&& (4 : Int32)) = (0 : Int32))))), .val (.int (bI (¬ ((p0_5 &&& (8 : Int32)) = (0 : Int32))))), .val (.long (if ¬ ((p0_5 &&& (1 : Int32)) = (0 : Int32)) then q0_4 else q0_0)), .second, .val (.long (if ¬ ((p0_5 &&& (2 : Int32)) = (0 : Int32)) then q0_4 else q0_1)), .second, .unset, .unset, .unset, .unset, .unset, .unset, .unset] [(.int (bI (¬ ((p0_5 &&& (4 : Int32)) = (0 : Int32)))))])) _
      refine XS.ifYes X0.here hx rfl (pc0 := 85) (pc' := 93) rfl (hb hby at_85) rfl ((if0 _ _).trans (teq (bI_f hc31)).1) (by decide) (by decide) ?_
      show Steps p.tables e below (s₁.setTop (mkF m 93 #[.val (.long q0_0), .second, .val (.long q0_1), .second, .val (.long q0_2), .second, .val (.long q0_3), .second, .val (.long q0_4), .second, .val (.int p0_5), .val (.int (bI (¬ ((p0_5 &&& (1 : Int32)) = (0 : Int32))))), .val (.int (bI (¬ ((p0_5 &&& (2 : Int32)) = (0 : Int32))))), .val (.int (bI (¬ ((p0_5 &&& (4 : Int32)) = (0 : Int32))))), .val (.int (bI (¬ ((p0_5 &&& (8 : Int32)) = (0 : Int32))))), .val (.long (if ¬ ((p0_5 &&& (1 : Int32)) = (0 : Int32)) then q0_4 else q0_0)), .second, .val (.long (if ¬ ((p0_5 &&& (2 : Int32)) = (0 : Int32)) then q0_4 else q0_1)), .second, .unset, .unset, .unset, .unset, .unset, .unset, .unset] [])) _
      refine XS.lload X0.here hx rfl (hb hby at_93) rfl ?_
      have q35 : (if ¬ ((p0_5 &&& (4 : Int32)) = (0 : Int32)) then q0_4 else q0_2) = q0_2 := (if_neg hc31)
      exact castTop (g := (mkF m 95 #[.val (.long q0_0), .second, .val (.long q0_1), .second, .val (.long q0_2), .second, .val (.long q0_3), .second, .val (.long q0_4), .second, .val (.int p0_5), .val (.int (bI (¬ ((p0_5 &&& (1 : Int32)) = (0 : Int32))))), .val (.int (bI (¬ ((p0_5 &&& (2 : Int32)) = (0 : Int32))))), .val (.int (bI (¬ ((p0_5 &&& (4 : Int32)) = (0 : Int32))))), .val (.int (bI (¬ ((p0_5 &&& (8 : Int32)) = (0 : Int32))))), .val (.long (if ¬ ((p0_5 &&& (1 : Int32)) = (0 : Int32)) then q0_4 else q0_0)), .second, .val (.long (if ¬ ((p0_5 &&& (2 : Int32)) = (0 : Int32)) then q0_4 else q0_1)), .second, .unset, .unset, .unset, .unset, .unset, .unset, .unset] [(.long q0_2)])) (g' := (mkF m 95 #[.val (.long q0_0), .second, .val (.long q0_1), .second, .val (.long q0_2), .second, .val (.long q0_3), .second, .val (.long q0_4), .second, .val (.int p0_5), .val (.int (bI (¬ ((p0_5 &&& (1 : Int32)) = (0 : Int32))))), .val (.int (bI (¬ ((p0_5 &&& (2 : Int32)) = (0 : Int32))))), .val (.int (bI (¬ ((p0_5 &&& (4 : Int32)) = (0 : Int32))))), .val (.int (bI (¬ ((p0_5 &&& (8 : Int32)) = (0 : Int32))))), .val (.long (if ¬ ((p0_5 &&& (1 : Int32)) = (0 : Int32)) then q0_4 else q0_0)), .second, .val (.long (if ¬ ((p0_5 &&& (2 : Int32)) = (0 : Int32)) then q0_4 else q0_1)), .second, .unset, .unset, .unset, .unset, .unset, .unset, .unset] [(.long (if ¬ ((p0_5 &&& (4 : Int32)) = (0 : Int32)) then q0_4 else q0_2))])) (by simp only [q35]) k)
  have pre37 : ∀ t, Steps p.tables e below (s₁.setTop (mkF m 99 #[.val (.long q0_0), .second, .val (.long q0_1), .second, .val (.long q0_2), .second, .val (.long q0_3), .second, .val (.long q0_4), .second, .val (.int p0_5), .val (.int (bI (¬ ((p0_5 &&& (1 : Int32)) = (0 : Int32))))), .val (.int (bI (¬ ((p0_5 &&& (2 : Int32)) = (0 : Int32))))), .val (.int (bI (¬ ((p0_5 &&& (4 : Int32)) = (0 : Int32))))), .val (.int (bI (¬ ((p0_5 &&& (8 : Int32)) = (0 : Int32))))), .val (.long (if ¬ ((p0_5 &&& (1 : Int32)) = (0 : Int32)) then q0_4 else q0_0)), .second, .val (.long (if ¬ ((p0_5 &&& (2 : Int32)) = (0 : Int32)) then q0_4 else q0_1)), .second, .val (.long (if ¬ ((p0_5 &&& (4 : Int32)) = (0 : Int32)) then q0_4 else q0_2)), .second, .unset, .unset, .unset, .unset, .unset] [(.int (bI (¬ ((p0_5 &&& (8 : Int32)) = (0 : Int32)))))])) t → Steps p.tables e below (s₁.setTop (entryFrame m #[(.long q0_0), (.long q0_1), (.long q0_2), (.long q0_3), (.long q0_4), (.int p0_5)] maxLocals)) t := fun t k => pre33 t (by
    show Steps p.tables e below (s₁.setTop (mkF m 95 #[.val (.long q0_0), .second, .val (.long q0_1), .second, .val (.long q0_2), .second, .val (.long q0_3), .second, .val (.long q0_4), .second, .val (.int p0_5), .val (.int (bI (¬ ((p0_5 &&& (1 : Int32)) = (0 : Int32))))), .val (.int (bI (¬ ((p0_5 &&& (2 : Int32)) = (0 : Int32))))), .val (.int (bI (¬ ((p0_5 &&& (4 : Int32)) = (0 : Int32))))), .val (.int (bI (¬ ((p0_5 &&& (8 : Int32)) = (0 : Int32))))), .val (.long (if ¬ ((p0_5 &&& (1 : Int32)) = (0 : Int32)) then q0_4 else q0_0)), .second, .val (.long (if ¬ ((p0_5 &&& (2 : Int32)) = (0 : Int32)) then q0_4 else q0_1)), .second, .unset, .unset, .unset, .unset, .unset, .unset, .unset] [(.long (if ¬ ((p0_5 &&& (4 : Int32)) = (0 : Int32)) then q0_4 else q0_2))])) _
    refine XS.lstore X0.here hx rfl (hb hby at_95) rfl (l' := #[.val (.long q0_0), .second, .val (.long q0_1), .second, .val (.long q0_2), .second, .val (.long q0_3), .second, .val (.long q0_4), .second, .val (.int p0_5), .val (.int (bI (¬ ((p0_5 &&& (1 : Int32)) = (0 : Int32))))), .val (.int (bI (¬ ((p0_5 &&& (2 : Int32)) = (0 : Int32))))), .val (.int (bI (¬ ((p0_5 &&& (4 : Int32)) = (0 : Int32))))), .val (.int (bI (¬ ((p0_5 &&& (8 : Int32)) = (0 : Int32))))), .val (.long (if ¬ ((p0_5 &&& (1 : Int32)) = (0 : Int32)) then q0_4 else q0_0)), .second, .val (.long (if ¬ ((p0_5 &&& (2 : Int32)) = (0 : Int32)) then q0_4 else q0_1)), .second, .val (.long (if ¬ ((p0_5 &&& (4 : Int32)) = (0 : Int32)) then q0_4 else q0_2)), .second, .unset, .unset, .unset, .unset, .unset]) rfl ?_
    show Steps p.tables e below (s₁.setTop (mkF m 97 #[.val (.long q0_0), .second, .val (.long q0_1), .second, .val (.long q0_2), .second, .val (.long q0_3), .second, .val (.long q0_4), .second, .val (.int p0_5), .val (.int (bI (¬ ((p0_5 &&& (1 : Int32)) = (0 : Int32))))), .val (.int (bI (¬ ((p0_5 &&& (2 : Int32)) = (0 : Int32))))), .val (.int (bI (¬ ((p0_5 &&& (4 : Int32)) = (0 : Int32))))), .val (.int (bI (¬ ((p0_5 &&& (8 : Int32)) = (0 : Int32))))), .val (.long (if ¬ ((p0_5 &&& (1 : Int32)) = (0 : Int32)) then q0_4 else q0_0)), .second, .val (.long (if ¬ ((p0_5 &&& (2 : Int32)) = (0 : Int32)) then q0_4 else q0_1)), .second, .val (.long (if ¬ ((p0_5 &&& (4 : Int32)) = (0 : Int32)) then q0_4 else q0_2)), .second, .unset, .unset, .unset, .unset, .unset] [])) _
    refine XS.iload X0.here hx rfl (hb hby at_97) rfl ?_
    exact k)
  have pre38 : ∀ t, Steps p.tables e below (s₁.setTop (mkF m 109 #[.val (.long q0_0), .second, .val (.long q0_1), .second, .val (.long q0_2), .second, .val (.long q0_3), .second, .val (.long q0_4), .second, .val (.int p0_5), .val (.int (bI (¬ ((p0_5 &&& (1 : Int32)) = (0 : Int32))))), .val (.int (bI (¬ ((p0_5 &&& (2 : Int32)) = (0 : Int32))))), .val (.int (bI (¬ ((p0_5 &&& (4 : Int32)) = (0 : Int32))))), .val (.int (bI (¬ ((p0_5 &&& (8 : Int32)) = (0 : Int32))))), .val (.long (if ¬ ((p0_5 &&& (1 : Int32)) = (0 : Int32)) then q0_4 else q0_0)), .second, .val (.long (if ¬ ((p0_5 &&& (2 : Int32)) = (0 : Int32)) then q0_4 else q0_1)), .second, .val (.long (if ¬ ((p0_5 &&& (4 : Int32)) = (0 : Int32)) then q0_4 else q0_2)), .second, .unset, .unset, .unset, .unset, .unset] [(.long (if ¬ ((p0_5 &&& (8 : Int32)) = (0 : Int32)) then q0_4 else q0_3))])) t → Steps p.tables e below (s₁.setTop (entryFrame m #[(.long q0_0), (.long q0_1), (.long q0_2), (.long q0_3), (.long q0_4), (.int p0_5)] maxLocals)) t := fun t k => pre37 t (by
    by_cases hc36 : ¬ ((p0_5 &&& (8 : Int32)) = (0 : Int32))
    · show Steps p.tables e below (s₁.setTop (mkF m 99 #[.val (.long q0_0), .second, .val (.long q0_1), .second, .val (.long q0_2), .second, .val (.long q0_3), .second, .val (.long q0_4), .second, .val (.int p0_5), .val (.int (bI (¬ ((p0_5 &&& (1 : Int32)) = (0 : Int32))))), .val (.int (bI (¬ ((p0_5 &&& (2 : Int32)) = (0 : Int32))))), .val (.int (bI (¬ ((p0_5 &&& (4 : Int32)) = (0 : Int32))))), .val (.int (bI (¬ ((p0_5 &&& (8 : Int32)) = (0 : Int32))))), .val (.long (if ¬ ((p0_5 &&& (1 : Int32)) = (0 : Int32)) then q0_4 else q0_0)), .second, .val (.long (if ¬ ((p0_5 &&& (2 : Int32)) = (0 : Int32)) then q0_4 else q0_1)), .second, .val (.long (if ¬ ((p0_5 &&& (4 : Int32)) = (0 : Int32)) then q0_4 else q0_2)), .second, .unset, .unset, .unset, .unset, .unset] [(.int (bI (¬ ((p0_5 &&& (8 : Int32)) = (0 : Int32)))))])) _
      refine XS.ifNo X0.here hx rfl (hb hby at_99) rfl ((if0 _ _).trans (feq (bI_n hc36)).1) ?_
      show Steps p.tables e below (s₁.setTop (mkF m 102 #[.val (.long q0_0), .second, .val (.long q0_1), .second, .val (.long q0_2), .second, .val (.long q0_3), .second, .val (.long q0_4), .second, .val (.int p0_5), .val (.int (bI (¬ ((p0_5 &&& (1 : Int32)) = (0 : Int32))))), .val (.int (bI (¬ ((p0_5 &&& (2 : Int32)) = (0 : Int32))))), .val (.int (bI (¬ ((p0_5 &&& (4 : Int32)) = (0 : Int32))))), .val (.int (bI (¬ ((p0_5 &&& (8 : Int32)) = (0 : Int32))))), .val (.long (if ¬ ((p0_5 &&& (1 : Int32)) = (0 : Int32)) then q0_4 else q0_0)), .second, .val (.long (if ¬ ((p0_5 &&& (2 : Int32)) = (0 : Int32)) then q0_4 else q0_1)), .second, .val (.long (if ¬ ((p0_5 &&& (4 : Int32)) = (0 : Int32)) then q0_4 else q0_2)), .second, .unset, .unset, .unset, .unset, .unset] [])) _
      refine XS.lload X0.here hx rfl (hb hby at_102) rfl ?_
      show Steps p.tables e below (s₁.setTop (mkF m 104 #[.val (.long q0_0), .second, .val (.long q0_1), .second, .val (.long q0_2), .second, .val (.long q0_3), .second, .val (.long q0_4), .second, .val (.int p0_5), .val (.int (bI (¬ ((p0_5 &&& (1 : Int32)) = (0 : Int32))))), .val (.int (bI (¬ ((p0_5 &&& (2 : Int32)) = (0 : Int32))))), .val (.int (bI (¬ ((p0_5 &&& (4 : Int32)) = (0 : Int32))))), .val (.int (bI (¬ ((p0_5 &&& (8 : Int32)) = (0 : Int32))))), .val (.long (if ¬ ((p0_5 &&& (1 : Int32)) = (0 : Int32)) then q0_4 else q0_0)), .second, .val (.long (if ¬ ((p0_5 &&& (2 : Int32)) = (0 : Int32)) then q0_4 else q0_1)), .second, .val (.long (if ¬ ((p0_5 &&& (4 : Int32)) = (0 : Int32)) then q0_4 else q0_2)), .second, .unset, .unset, .unset, .unset, .unset] [(.long q0_4)])) _
      refine XS.goto X0.here hx rfl (pc0 := 104) (pc' := 109) rfl (hb hby at_104) (by decide) (by decide) ?_
      have q39 : (if ¬ ((p0_5 &&& (8 : Int32)) = (0 : Int32)) then q0_4 else q0_3) = q0_4 := (if_pos hc36)
      exact castTop (g := (mkF m 109 #[.val (.long q0_0), .second, .val (.long q0_1), .second, .val (.long q0_2), .second, .val (.long q0_3), .second, .val (.long q0_4), .second, .val (.int p0_5), .val (.int (bI (¬ ((p0_5 &&& (1 : Int32)) = (0 : Int32))))), .val (.int (bI (¬ ((p0_5 &&& (2 : Int32)) = (0 : Int32))))), .val (.int (bI (¬ ((p0_5 &&& (4 : Int32)) = (0 : Int32))))), .val (.int (bI (¬ ((p0_5 &&& (8 : Int32)) = (0 : Int32))))), .val (.long (if ¬ ((p0_5 &&& (1 : Int32)) = (0 : Int32)) then q0_4 else q0_0)), .second, .val (.long (if ¬ ((p0_5 &&& (2 : Int32)) = (0 : Int32)) then q0_4 else q0_1)), .second, .val (.long (if ¬ ((p0_5 &&& (4 : Int32)) = (0 : Int32)) then q0_4 else q0_2)), .second, .unset, .unset, .unset, .unset, .unset] [(.long q0_4)])) (g' := (mkF m 109 #[.val (.long q0_0), .second, .val (.long q0_1), .second, .val (.long q0_2), .second, .val (.long q0_3), .second, .val (.long q0_4), .second, .val (.int p0_5), .val (.int (bI (¬ ((p0_5 &&& (1 : Int32)) = (0 : Int32))))), .val (.int (bI (¬ ((p0_5 &&& (2 : Int32)) = (0 : Int32))))), .val (.int (bI (¬ ((p0_5 &&& (4 : Int32)) = (0 : Int32))))), .val (.int (bI (¬ ((p0_5 &&& (8 : Int32)) = (0 : Int32))))), .val (.long (if ¬ ((p0_5 &&& (1 : Int32)) = (0 : Int32)) then q0_4 else q0_0)), .second, .val (.long (if ¬ ((p0_5 &&& (2 : Int32)) = (0 : Int32)) then q0_4 else q0_1)), .second, .val (.long (if ¬ ((p0_5 &&& (4 : Int32)) = (0 : Int32)) then q0_4 else q0_2)), .second, .unset, .unset, .unset, .unset, .unset] [(.long (if ¬ ((p0_5 &&& (8 : Int32)) = (0 : Int32)) then q0_4 else q0_3))])) (by simp only [q39]) k
    · show Steps p.tables e below (s₁.setTop (mkF m 99 #[.val (.long q0_0), .second, .val (.long q0_1), .second, .val (.long q0_2), .second, .val (.long q0_3), .second, .val (.long q0_4), .second, .val (.int p0_5), .val (.int (bI (¬ ((p0_5 &&& (1 : Int32)) = (0 : Int32))))), .val (.int (bI (¬ ((p0_5 &&& (2 : Int32)) = (0 : Int32))))), .val (.int (bI (¬ ((p0_5 &&& (4 : Int32)) = (0 : Int32))))), .val (.int (bI (¬ ((p0_5 &&& (8 : Int32)) = (0 : Int32))))), .val (.long (if ¬ ((p0_5 &&& (1 : Int32)) = (0 : Int32)) then q0_4 else q0_0)), .second, .val (.long (if ¬ ((p0_5 &&& (2 : Int32)) = (0 : Int32)) then q0_4 else q0_1)), .second, .val (.long (if ¬ ((p0_5 &&& (4 : Int32)) = (0 : Int32)) then q0_4 else q0_2)), .second, .unset, .unset, .unset, .unset, .unset] [(.int (bI (¬ ((p0_5 &&& (8 : Int32)) = (0 : Int32)))))])) _
      refine XS.ifYes X0.here hx rfl (pc0 := 99) (pc' := 107) rfl (hb hby at_99) rfl ((if0 _ _).trans (teq (bI_f hc36)).1) (by decide) (by decide) ?_
      show Steps p.tables e below (s₁.setTop (mkF m 107 #[.val (.long q0_0), .second, .val (.long q0_1), .second, .val (.long q0_2), .second, .val (.long q0_3), .second, .val (.long q0_4), .second, .val (.int p0_5), .val (.int (bI (¬ ((p0_5 &&& (1 : Int32)) = (0 : Int32))))), .val (.int (bI (¬ ((p0_5 &&& (2 : Int32)) = (0 : Int32))))), .val (.int (bI (¬ ((p0_5 &&& (4 : Int32)) = (0 : Int32))))), .val (.int (bI (¬ ((p0_5 &&& (8 : Int32)) = (0 : Int32))))), .val (.long (if ¬ ((p0_5 &&& (1 : Int32)) = (0 : Int32)) then q0_4 else q0_0)), .second, .val (.long (if ¬ ((p0_5 &&& (2 : Int32)) = (0 : Int32)) then q0_4 else q0_1)), .second, .val (.long (if ¬ ((p0_5 &&& (4 : Int32)) = (0 : Int32)) then q0_4 else q0_2)), .second, .unset, .unset, .unset, .unset, .unset] [])) _
      refine XS.lload X0.here hx rfl (hb hby at_107) rfl ?_
      have q40 : (if ¬ ((p0_5 &&& (8 : Int32)) = (0 : Int32)) then q0_4 else q0_3) = q0_3 := (if_neg hc36)
      exact castTop (g := (mkF m 109 #[.val (.long q0_0), .second, .val (.long q0_1), .second, .val (.long q0_2), .second, .val (.long q0_3), .second, .val (.long q0_4), .second, .val (.int p0_5), .val (.int (bI (¬ ((p0_5 &&& (1 : Int32)) = (0 : Int32))))), .val (.int (bI (¬ ((p0_5 &&& (2 : Int32)) = (0 : Int32))))), .val (.int (bI (¬ ((p0_5 &&& (4 : Int32)) = (0 : Int32))))), .val (.int (bI (¬ ((p0_5 &&& (8 : Int32)) = (0 : Int32))))), .val (.long (if ¬ ((p0_5 &&& (1 : Int32)) = (0 : Int32)) then q0_4 else q0_0)), .second, .val (.long (if ¬ ((p0_5 &&& (2 : Int32)) = (0 : Int32)) then q0_4 else q0_1)), .second, .val (.long (if ¬ ((p0_5 &&& (4 : Int32)) = (0 : Int32)) then q0_4 else q0_2)), .second, .unset, .unset, .unset, .unset, .unset] [(.long q0_3)])) (g' := (mkF m 109 #[.val (.long q0_0), .second, .val (.long q0_1), .second, .val (.long q0_2), .second, .val (.long q0_3), .second, .val (.long q0_4), .second, .val (.int p0_5), .val (.int (bI (¬ ((p0_5 &&& (1 : Int32)) = (0 : Int32))))), .val (.int (bI (¬ ((p0_5 &&& (2 : Int32)) = (0 : Int32))))), .val (.int (bI (¬ ((p0_5 &&& (4 : Int32)) = (0 : Int32))))), .val (.int (bI (¬ ((p0_5 &&& (8 : Int32)) = (0 : Int32))))), .val (.long (if ¬ ((p0_5 &&& (1 : Int32)) = (0 : Int32)) then q0_4 else q0_0)), .second, .val (.long (if ¬ ((p0_5 &&& (2 : Int32)) = (0 : Int32)) then q0_4 else q0_1)), .second, .val (.long (if ¬ ((p0_5 &&& (4 : Int32)) = (0 : Int32)) then q0_4 else q0_2)), .second, .unset, .unset, .unset, .unset, .unset] [(.long (if ¬ ((p0_5 &&& (8 : Int32)) = (0 : Int32)) then q0_4 else q0_3))])) (by simp only [q40]) k)
  have pre41 : ∀ t, Steps p.tables e below (s₁.setTop (mkF m 111 #[.val (.long q0_0), .second, .val (.long q0_1), .second, .val (.long q0_2), .second, .val (.long q0_3), .second, .val (.long q0_4), .second, .val (.int p0_5), .val (.int (bI (¬ ((p0_5 &&& (1 : Int32)) = (0 : Int32))))), .val (.int (bI (¬ ((p0_5 &&& (2 : Int32)) = (0 : Int32))))), .val (.int (bI (¬ ((p0_5 &&& (4 : Int32)) = (0 : Int32))))), .val (.int (bI (¬ ((p0_5 &&& (8 : Int32)) = (0 : Int32))))), .val (.long (if ¬ ((p0_5 &&& (1 : Int32)) = (0 : Int32)) then q0_4 else q0_0)), .second, .val (.long (if ¬ ((p0_5 &&& (2 : Int32)) = (0 : Int32)) then q0_4 else q0_1)), .second, .val (.long (if ¬ ((p0_5 &&& (4 : Int32)) = (0 : Int32)) then q0_4 else q0_2)), .second, .val (.long (if ¬ ((p0_5 &&& (8 : Int32)) = (0 : Int32)) then q0_4 else q0_3)), .second, .unset, .unset, .unset] [])) t → Steps p.tables e below (s₁.setTop (entryFrame m #[(.long q0_0), (.long q0_1), (.long q0_2), (.long q0_3), (.long q0_4), (.int p0_5)] maxLocals)) t := fun t k => pre38 t (by
    show Steps p.tables e below (s₁.setTop (mkF m 109 #[.val (.long q0_0), .second, .val (.long q0_1), .second, .val (.long q0_2), .second, .val (.long q0_3), .second, .val (.long q0_4), .second, .val (.int p0_5), .val (.int (bI (¬ ((p0_5 &&& (1 : Int32)) = (0 : Int32))))), .val (.int (bI (¬ ((p0_5 &&& (2 : Int32)) = (0 : Int32))))), .val (.int (bI (¬ ((p0_5 &&& (4 : Int32)) = (0 : Int32))))), .val (.int (bI (¬ ((p0_5 &&& (8 : Int32)) = (0 : Int32))))), .val (.long (if ¬ ((p0_5 &&& (1 : Int32)) = (0 : Int32)) then q0_4 else q0_0)), .second, .val (.long (if ¬ ((p0_5 &&& (2 : Int32)) = (0 : Int32)) then q0_4 else q0_1)), .second, .val (.long (if ¬ ((p0_5 &&& (4 : Int32)) = (0 : Int32)) then q0_4 else q0_2)), .second, .unset, .unset, .unset, .unset, .unset] [(.long (if ¬ ((p0_5 &&& (8 : Int32)) = (0 : Int32)) then q0_4 else q0_3))])) _
    refine XS.lstore X0.here hx rfl (hb hby at_109) rfl (l' := #[.val (.long q0_0), .second, .val (.long q0_1), .second, .val (.long q0_2), .second, .val (.long q0_3), .second, .val (.long q0_4), .second, .val (.int p0_5), .val (.int (bI (¬ ((p0_5 &&& (1 : Int32)) = (0 : Int32))))), .val (.int (bI (¬ ((p0_5 &&& (2 : Int32)) = (0 : Int32))))), .val (.int (bI (¬ ((p0_5 &&& (4 : Int32)) = (0 : Int32))))), .val (.int (bI (¬ ((p0_5 &&& (8 : Int32)) = (0 : Int32))))), .val (.long (if ¬ ((p0_5 &&& (1 : Int32)) = (0 : Int32)) then q0_4 else q0_0)), .second, .val (.long (if ¬ ((p0_5 &&& (2 : Int32)) = (0 : Int32)) then q0_4 else q0_1)), .second, .val (.long (if ¬ ((p0_5 &&& (4 : Int32)) = (0 : Int32)) then q0_4 else q0_2)), .second, .val (.long (if ¬ ((p0_5 &&& (8 : Int32)) = (0 : Int32)) then q0_4 else q0_3)), .second, .unset, .unset, .unset]) rfl ?_
    exact k)
  obtain ⟨NC, hNC⟩ : ∃ z : Int64, z = (if ¬ ((p0_5 &&& (1 : Int32)) = (0 : Int32)) then q0_4 else q0_0) := ⟨_, rfl⟩
  have pre42 : ∀ t, Steps p.tables e below (s₁.setTop (mkF m 111 #[.val (.long q0_0), .second, .val (.long q0_1), .second, .val (.long q0_2), .second, .val (.long q0_3), .second, .val (.long q0_4), .second, .val (.int p0_5), .val (.int (bI (¬ ((p0_5 &&& (1 : Int32)) = (0 : Int32))))), .val (.int (bI (¬ ((p0_5 &&& (2 : Int32)) = (0 : Int32))))), .val (.int (bI (¬ ((p0_5 &&& (4 : Int32)) = (0 : Int32))))), .val (.int (bI (¬ ((p0_5 &&& (8 : Int32)) = (0 : Int32))))), .val (.long NC), .second, .val (.long (if ¬ ((p0_5 &&& (2 : Int32)) = (0 : Int32)) then q0_4 else q0_1)), .second, .val (.long (if ¬ ((p0_5 &&& (4 : Int32)) = (0 : Int32)) then q0_4 else q0_2)), .second, .val (.long (if ¬ ((p0_5 &&& (8 : Int32)) = (0 : Int32)) then q0_4 else q0_3)), .second, .unset, .unset, .unset] [])) t → Steps p.tables e below (s₁.setTop (entryFrame m #[(.long q0_0), (.long q0_1), (.long q0_2), (.long q0_3), (.long q0_4), (.int p0_5)] maxLocals)) t := fun t k => pre41 t (castTop (by rw [hNC]) k)
  obtain ⟨NM, hNM⟩ : ∃ z : Int64, z = (if ¬ ((p0_5 &&& (2 : Int32)) = (0 : Int32)) then q0_4 else q0_1) := ⟨_, rfl⟩
  have pre43 : ∀ t, Steps p.tables e below (s₁.setTop (mkF m 111 #[.val (.long q0_0), .second, .val (.long q0_1), .second, .val (.long q0_2), .second, .val (.long q0_3), .second, .val (.long q0_4), .second, .val (.int p0_5), .val (.int (bI (¬ ((p0_5 &&& (1 : Int32)) = (0 : Int32))))), .val (.int (bI (¬ ((p0_5 &&& (2 : Int32)) = (0 : Int32))))), .val (.int (bI (¬ ((p0_5 &&& (4 : Int32)) = (0 : Int32))))), .val (.int (bI (¬ ((p0_5 &&& (8 : Int32)) = (0 : Int32))))), .val (.long NC), .second, .val (.long NM), .second, .val (.long (if ¬ ((p0_5 &&& (4 : Int32)) = (0 : Int32)) then q0_4 else q0_2)), .second, .val (.long (if ¬ ((p0_5 &&& (8 : Int32)) = (0 : Int32)) then q0_4 else q0_3)), .second, .unset, .unset, .unset] [])) t → Steps p.tables e below (s₁.setTop (entryFrame m #[(.long q0_0), (.long q0_1), (.long q0_2), (.long q0_3), (.long q0_4), (.int p0_5)] maxLocals)) t := fun t k => pre42 t (castTop (by rw [hNM]) k)
  obtain ⟨ND, hND⟩ : ∃ z : Int64, z = (if ¬ ((p0_5 &&& (4 : Int32)) = (0 : Int32)) then q0_4 else q0_2) := ⟨_, rfl⟩
  have pre44 : ∀ t, Steps p.tables e below (s₁.setTop (mkF m 111 #[.val (.long q0_0), .second, .val (.long q0_1), .second, .val (.long q0_2), .second, .val (.long q0_3), .second, .val (.long q0_4), .second, .val (.int p0_5), .val (.int (bI (¬ ((p0_5 &&& (1 : Int32)) = (0 : Int32))))), .val (.int (bI (¬ ((p0_5 &&& (2 : Int32)) = (0 : Int32))))), .val (.int (bI (¬ ((p0_5 &&& (4 : Int32)) = (0 : Int32))))), .val (.int (bI (¬ ((p0_5 &&& (8 : Int32)) = (0 : Int32))))), .val (.long NC), .second, .val (.long NM), .second, .val (.long ND), .second, .val (.long (if ¬ ((p0_5 &&& (8 : Int32)) = (0 : Int32)) then q0_4 else q0_3)), .second, .unset, .unset, .unset] [])) t → Steps p.tables e below (s₁.setTop (entryFrame m #[(.long q0_0), (.long q0_1), (.long q0_2), (.long q0_3), (.long q0_4), (.int p0_5)] maxLocals)) t := fun t k => pre43 t (castTop (by rw [hND]) k)
  obtain ⟨NW, hNW⟩ : ∃ z : Int64, z = (if ¬ ((p0_5 &&& (8 : Int32)) = (0 : Int32)) then q0_4 else q0_3) := ⟨_, rfl⟩
  have pre45 : ∀ t, Steps p.tables e below (s₁.setTop (mkF m 111 #[.val (.long q0_0), .second, .val (.long q0_1), .second, .val (.long q0_2), .second, .val (.long q0_3), .second, .val (.long q0_4), .second, .val (.int p0_5), .val (.int (bI (¬ ((p0_5 &&& (1 : Int32)) = (0 : Int32))))), .val (.int (bI (¬ ((p0_5 &&& (2 : Int32)) = (0 : Int32))))), .val (.int (bI (¬ ((p0_5 &&& (4 : Int32)) = (0 : Int32))))), .val (.int (bI (¬ ((p0_5 &&& (8 : Int32)) = (0 : Int32))))), .val (.long NC), .second, .val (.long NM), .second, .val (.long ND), .second, .val (.long NW), .second, .unset, .unset, .unset] [])) t → Steps p.tables e below (s₁.setTop (entryFrame m #[(.long q0_0), (.long q0_1), (.long q0_2), (.long q0_3), (.long q0_4), (.int p0_5)] maxLocals)) t := fun t k => pre44 t (castTop (by rw [hNW]) k)
  obtain ⟨T46, h46, X46, e46, E46, A46, D46, -, st46⟩ := newO X0 hx hZ hown (hW 0 _ rfl) (hW 1 _ rfl) (hW 2 _ rfl) e0 (g := (mkF m 111 #[.val (.long q0_0), .second, .val (.long q0_1), .second, .val (.long q0_2), .second, .val (.long q0_3), .second, .val (.long q0_4), .second, .val (.int p0_5), .val (.int (bI (¬ ((p0_5 &&& (1 : Int32)) = (0 : Int32))))), .val (.int (bI (¬ ((p0_5 &&& (2 : Int32)) = (0 : Int32))))), .val (.int (bI (¬ ((p0_5 &&& (4 : Int32)) = (0 : Int32))))), .val (.int (bI (¬ ((p0_5 &&& (8 : Int32)) = (0 : Int32))))), .val (.long NC), .second, .val (.long NM), .second, .val (.long ND), .second, .val (.long NW), .second, .unset, .unset, .unset] [])) rfl (hb hby at_111) (by decide) (by decide)
  obtain ⟨b46, g46⟩ : ∃ z, z = h0.size := ⟨_, rfl⟩
  rw [← g46] at A46 D46 st46
  have gz46 : n0 ≤ b46 := Nat.le_trans Z0 (Nat.le_of_eq g46.symm)
  have pre47 : ∀ t, Steps p.tables e below (T46.setTop (mkF m 114 #[.val (.long q0_0), .second, .val (.long q0_1), .second, .val (.long q0_2), .second, .val (.long q0_3), .second, .val (.long q0_4), .second, .val (.int p0_5), .val (.int (bI (¬ ((p0_5 &&& (1 : Int32)) = (0 : Int32))))), .val (.int (bI (¬ ((p0_5 &&& (2 : Int32)) = (0 : Int32))))), .val (.int (bI (¬ ((p0_5 &&& (4 : Int32)) = (0 : Int32))))), .val (.int (bI (¬ ((p0_5 &&& (8 : Int32)) = (0 : Int32))))), .val (.long NC), .second, .val (.long NM), .second, .val (.long ND), .second, .val (.long NW), .second, .unset, .unset, .unset] [(.ref b46)])) t → Steps p.tables e below (s₁.setTop (entryFrame m #[(.long q0_0), (.long q0_1), (.long q0_2), (.long q0_3), (.long q0_4), (.int p0_5)] maxLocals)) t := fun t k => pre45 t (by
    show Steps p.tables e below (s₁.setTop (mkF m 111 #[.val (.long q0_0), .second, .val (.long q0_1), .second, .val (.long q0_2), .second, .val (.long q0_3), .second, .val (.long q0_4), .second, .val (.int p0_5), .val (.int (bI (¬ ((p0_5 &&& (1 : Int32)) = (0 : Int32))))), .val (.int (bI (¬ ((p0_5 &&& (2 : Int32)) = (0 : Int32))))), .val (.int (bI (¬ ((p0_5 &&& (4 : Int32)) = (0 : Int32))))), .val (.int (bI (¬ ((p0_5 &&& (8 : Int32)) = (0 : Int32))))), .val (.long NC), .second, .val (.long NM), .second, .val (.long ND), .second, .val (.long NW), .second, .unset, .unset, .unset] [])) _
    refine st46 _ ?_
    exact k)
  have z48 := Nat.le_trans Z0 E46.1
  have f49 : Fld Z h46 b46 "com/example/nearlane/nearlane/engine/Room" "cpuMilli" "J" (.long (0 : Int64)) := D46 (Or.inr (hW 15 _ rfl)) (ty := .long) (by decide)
  have f50 : Fld Z h46 b46 "com/example/nearlane/nearlane/engine/Room" "memoryMib" "J" (.long (0 : Int64)) := D46 (Or.inr (hW 17 _ rfl)) (ty := .long) (by decide)
  have f51 : Fld Z h46 b46 "com/example/nearlane/nearlane/engine/Room" "deviceMilli" "J" (.long (0 : Int64)) := D46 (Or.inr (hW 19 _ rfl)) (ty := .long) (by decide)
  have f52 : Fld Z h46 b46 "com/example/nearlane/nearlane/engine/Room" "wholeDevices" "J" (.long (0 : Int64)) := D46 (Or.inr (hW 21 _ rfl)) (ty := .long) (by decide)
  obtain ⟨_, _, ⟨T53, L53, k53, n53⟩, -, X53, ⟨Lc53, hQ53, l53, y53, z53⟩, st53⟩ := X46.specialBack hx (y := (⟨"com/example/nearlane/nearlane/engine/Room", "<init>", "(JJJJ)V"⟩ : MethodName)) rfl hown (mvT hZ (hW 3 _ rfl)) (mvT hZ (hW 4 _ rfl)) (mvT hZ (hW 5 _ rfl)) (by decide) (backOf (W := 1) (rm1 l Z a0 hw [] b46 q0_0 q0_1 q0_2 q0_3 (0 : Int64) (0 : Int64) (0 : Int64) (0 : Int64) h46 n0 z48 A46 f49 f50 f51 f52 gz46) hZ (hW 5 _ rfl) (hW 2 _ rfl) (by decide) (by decide)) (g := (mkF m 121 #[.val (.long q0_0), .second, .val (.long q0_1), .second, .val (.long q0_2), .second, .val (.long q0_3), .second, .val (.long q0_4), .second, .val (.int p0_5), .val (.int (bI (¬ ((p0_5 &&& (1 : Int32)) = (0 : Int32))))), .val (.int (bI (¬ ((p0_5 &&& (2 : Int32)) = (0 : Int32))))), .val (.int (bI (¬ ((p0_5 &&& (4 : Int32)) = (0 : Int32))))), .val (.int (bI (¬ ((p0_5 &&& (8 : Int32)) = (0 : Int32))))), .val (.long NC), .second, .val (.long NM), .second, .val (.long ND), .second, .val (.long NW), .second, .unset, .unset, .unset] [(.long q0_3), (.long q0_2), (.long q0_1), (.long q0_0), (.ref b46), (.ref b46)])) rfl (by rw [hml]; rfl) (Steps.refl _) (a := b46) (argsL := [(.long q0_0), (.long q0_1), (.long q0_2), (.long q0_3)]) (rest := [(.ref b46)]) (lenOf pd_2 rfl) rfl (by show 2 * 0 + _ ≤ _; exact Nat.le_of_eq rfl) (hb hby at_121) (fun _ _ => ⟨rfl, e46, (by decide : 1 + 0 ≤ _), (by decide : 4 + 0 ≤ _)⟩)
  dsimp only [Pt.U, Pt.locs, Pt.cells, Pt.slots] at X53 l53 y53 z53 st53 hQ53
  subst l53 y53 z53
  obtain ⟨rfl, N53q, K53, r53_0, r53_1, r53_2, r53_3, r53_4⟩ := hQ53
  have N54 := Fr.app N0 N53q
  have pre55 : ∀ t, Steps p.tables e below (T53.setTop (mkF m 124 #[.val (.long q0_0), .second, .val (.long q0_1), .second, .val (.long q0_2), .second, .val (.long q0_3), .second, .val (.long q0_4), .second, .val (.int p0_5), .val (.int (bI (¬ ((p0_5 &&& (1 : Int32)) = (0 : Int32))))), .val (.int (bI (¬ ((p0_5 &&& (2 : Int32)) = (0 : Int32))))), .val (.int (bI (¬ ((p0_5 &&& (4 : Int32)) = (0 : Int32))))), .val (.int (bI (¬ ((p0_5 &&& (8 : Int32)) = (0 : Int32))))), .val (.long NC), .second, .val (.long NM), .second, .val (.long ND), .second, .val (.long NW), .second, .unset, .unset, .unset] [(.ref b46)])) t → Steps p.tables e below (s₁.setTop (entryFrame m #[(.long q0_0), (.long q0_1), (.long q0_2), (.long q0_3), (.long q0_4), (.int p0_5)] maxLocals)) t := fun t k => pre47 t (by
    show Steps p.tables e below (T46.setTop (mkF m 114 #[.val (.long q0_0), .second, .val (.long q0_1), .second, .val (.long q0_2), .second, .val (.long q0_3), .second, .val (.long q0_4), .second, .val (.int p0_5), .val (.int (bI (¬ ((p0_5 &&& (1 : Int32)) = (0 : Int32))))), .val (.int (bI (¬ ((p0_5 &&& (2 : Int32)) = (0 : Int32))))), .val (.int (bI (¬ ((p0_5 &&& (4 : Int32)) = (0 : Int32))))), .val (.int (bI (¬ ((p0_5 &&& (8 : Int32)) = (0 : Int32))))), .val (.long NC), .second, .val (.long NM), .second, .val (.long ND), .second, .val (.long NW), .second, .unset, .unset, .unset] [(.ref b46)])) _
    refine XS.dup X46.here hx rfl (hb hby at_114) rfl rfl ?_
    show Steps p.tables e below (T46.setTop (mkF m 115 #[.val (.long q0_0), .second, .val (.long q0_1), .second, .val (.long q0_2), .second, .val (.long q0_3), .second, .val (.long q0_4), .second, .val (.int p0_5), .val (.int (bI (¬ ((p0_5 &&& (1 : Int32)) = (0 : Int32))))), .val (.int (bI (¬ ((p0_5 &&& (2 : Int32)) = (0 : Int32))))), .val (.int (bI (¬ ((p0_5 &&& (4 : Int32)) = (0 : Int32))))), .val (.int (bI (¬ ((p0_5 &&& (8 : Int32)) = (0 : Int32))))), .val (.long NC), .second, .val (.long NM), .second, .val (.long ND), .second, .val (.long NW), .second, .unset, .unset, .unset] [(.ref b46), (.ref b46)])) _
    refine XS.lloadN X46.here hx rfl (hb hby at_115) rfl ?_
    show Steps p.tables e below (T46.setTop (mkF m 116 #[.val (.long q0_0), .second, .val (.long q0_1), .second, .val (.long q0_2), .second, .val (.long q0_3), .second, .val (.long q0_4), .second, .val (.int p0_5), .val (.int (bI (¬ ((p0_5 &&& (1 : Int32)) = (0 : Int32))))), .val (.int (bI (¬ ((p0_5 &&& (2 : Int32)) = (0 : Int32))))), .val (.int (bI (¬ ((p0_5 &&& (4 : Int32)) = (0 : Int32))))), .val (.int (bI (¬ ((p0_5 &&& (8 : Int32)) = (0 : Int32))))), .val (.long NC), .second, .val (.long NM), .second, .val (.long ND), .second, .val (.long NW), .second, .unset, .unset, .unset] [(.long q0_0), (.ref b46), (.ref b46)])) _
    refine XS.lloadN X46.here hx rfl (hb hby at_116) rfl ?_
    show Steps p.tables e below (T46.setTop (mkF m 117 #[.val (.long q0_0), .second, .val (.long q0_1), .second, .val (.long q0_2), .second, .val (.long q0_3), .second, .val (.long q0_4), .second, .val (.int p0_5), .val (.int (bI (¬ ((p0_5 &&& (1 : Int32)) = (0 : Int32))))), .val (.int (bI (¬ ((p0_5 &&& (2 : Int32)) = (0 : Int32))))), .val (.int (bI (¬ ((p0_5 &&& (4 : Int32)) = (0 : Int32))))), .val (.int (bI (¬ ((p0_5 &&& (8 : Int32)) = (0 : Int32))))), .val (.long NC), .second, .val (.long NM), .second, .val (.long ND), .second, .val (.long NW), .second, .unset, .unset, .unset] [(.long q0_1), (.long q0_0), (.ref b46), (.ref b46)])) _
    refine XS.lload X46.here hx rfl (hb hby at_117) rfl ?_
    show Steps p.tables e below (T46.setTop (mkF m 119 #[.val (.long q0_0), .second, .val (.long q0_1), .second, .val (.long q0_2), .second, .val (.long q0_3), .second, .val (.long q0_4), .second, .val (.int p0_5), .val (.int (bI (¬ ((p0_5 &&& (1 : Int32)) = (0 : Int32))))), .val (.int (bI (¬ ((p0_5 &&& (2 : Int32)) = (0 : Int32))))), .val (.int (bI (¬ ((p0_5 &&& (4 : Int32)) = (0 : Int32))))), .val (.int (bI (¬ ((p0_5 &&& (8 : Int32)) = (0 : Int32))))), .val (.long NC), .second, .val (.long NM), .second, .val (.long ND), .second, .val (.long NW), .second, .unset, .unset, .unset] [(.long q0_2), (.long q0_1), (.long q0_0), (.ref b46), (.ref b46)])) _
    refine XS.lload X46.here hx rfl (hb hby at_119) rfl ?_
    show Steps p.tables e below (T46.setTop (mkF m 121 #[.val (.long q0_0), .second, .val (.long q0_1), .second, .val (.long q0_2), .second, .val (.long q0_3), .second, .val (.long q0_4), .second, .val (.int p0_5), .val (.int (bI (¬ ((p0_5 &&& (1 : Int32)) = (0 : Int32))))), .val (.int (bI (¬ ((p0_5 &&& (2 : Int32)) = (0 : Int32))))), .val (.int (bI (¬ ((p0_5 &&& (4 : Int32)) = (0 : Int32))))), .val (.int (bI (¬ ((p0_5 &&& (8 : Int32)) = (0 : Int32))))), .val (.long NC), .second, .val (.long NM), .second, .val (.long ND), .second, .val (.long NW), .second, .unset, .unset, .unset] [(.long q0_3), (.long q0_2), (.long q0_1), (.long q0_0), (.ref b46), (.ref b46)])) _
    refine st53.trans ?_
    exact k)
  have f56 := A46.keep K53
  have z57 := Nat.le_trans z48 K53.1
  obtain ⟨T58, h58, X58, e58, E58, A58, D58, -, st58⟩ := newO X53 hx hZ hown (hW 0 _ rfl) (hW 1 _ rfl) (hW 2 _ rfl) rfl (g := (mkF m 126 #[.val (.long q0_0), .second, .val (.long q0_1), .second, .val (.long q0_2), .second, .val (.long q0_3), .second, .val (.long q0_4), .second, .val (.int p0_5), .val (.int (bI (¬ ((p0_5 &&& (1 : Int32)) = (0 : Int32))))), .val (.int (bI (¬ ((p0_5 &&& (2 : Int32)) = (0 : Int32))))), .val (.int (bI (¬ ((p0_5 &&& (4 : Int32)) = (0 : Int32))))), .val (.int (bI (¬ ((p0_5 &&& (8 : Int32)) = (0 : Int32))))), .val (.long NC), .second, .val (.long NM), .second, .val (.long ND), .second, .val (.long NW), .second, .val (.ref b46), .unset, .unset] [])) rfl (hb hby at_126) (by decide) (by decide)
  obtain ⟨b58, g58⟩ : ∃ z, z = T53.heap.size := ⟨_, rfl⟩
  rw [← g58] at A58 D58 st58
  have gz58 : n0 ≤ b58 := Nat.le_trans z57 (Nat.le_of_eq g58.symm)
  have ne59 : b46 ≠ b58 := Nat.ne_of_lt (Nat.lt_of_lt_of_le r53_0.lt (Nat.le_of_eq g58.symm))
  have pre60 : ∀ t, Steps p.tables e below (T58.setTop (mkF m 129 #[.val (.long q0_0), .second, .val (.long q0_1), .second, .val (.long q0_2), .second, .val (.long q0_3), .second, .val (.long q0_4), .second, .val (.int p0_5), .val (.int (bI (¬ ((p0_5 &&& (1 : Int32)) = (0 : Int32))))), .val (.int (bI (¬ ((p0_5 &&& (2 : Int32)) = (0 : Int32))))), .val (.int (bI (¬ ((p0_5 &&& (4 : Int32)) = (0 : Int32))))), .val (.int (bI (¬ ((p0_5 &&& (8 : Int32)) = (0 : Int32))))), .val (.long NC), .second, .val (.long NM), .second, .val (.long ND), .second, .val (.long NW), .second, .val (.ref b46), .unset, .unset] [(.ref b58)])) t → Steps p.tables e below (s₁.setTop (entryFrame m #[(.long q0_0), (.long q0_1), (.long q0_2), (.long q0_3), (.long q0_4), (.int p0_5)] maxLocals)) t := fun t k => pre55 t (by
    show Steps p.tables e below (T53.setTop (mkF m 124 #[.val (.long q0_0), .second, .val (.long q0_1), .second, .val (.long q0_2), .second, .val (.long q0_3), .second, .val (.long q0_4), .second, .val (.int p0_5), .val (.int (bI (¬ ((p0_5 &&& (1 : Int32)) = (0 : Int32))))), .val (.int (bI (¬ ((p0_5 &&& (2 : Int32)) = (0 : Int32))))), .val (.int (bI (¬ ((p0_5 &&& (4 : Int32)) = (0 : Int32))))), .val (.int (bI (¬ ((p0_5 &&& (8 : Int32)) = (0 : Int32))))), .val (.long NC), .second, .val (.long NM), .second, .val (.long ND), .second, .val (.long NW), .second, .unset, .unset, .unset] [(.ref b46)])) _
    refine XS.astore X53.here hx rfl (hb hby at_124) rfl rfl (l' := #[.val (.long q0_0), .second, .val (.long q0_1), .second, .val (.long q0_2), .second, .val (.long q0_3), .second, .val (.long q0_4), .second, .val (.int p0_5), .val (.int (bI (¬ ((p0_5 &&& (1 : Int32)) = (0 : Int32))))), .val (.int (bI (¬ ((p0_5 &&& (2 : Int32)) = (0 : Int32))))), .val (.int (bI (¬ ((p0_5 &&& (4 : Int32)) = (0 : Int32))))), .val (.int (bI (¬ ((p0_5 &&& (8 : Int32)) = (0 : Int32))))), .val (.long NC), .second, .val (.long NM), .second, .val (.long ND), .second, .val (.long NW), .second, .val (.ref b46), .unset, .unset]) rfl ?_
    show Steps p.tables e below (T53.setTop (mkF m 126 #[.val (.long q0_0), .second, .val (.long q0_1), .second, .val (.long q0_2), .second, .val (.long q0_3), .second, .val (.long q0_4), .second, .val (.int p0_5), .val (.int (bI (¬ ((p0_5 &&& (1 : Int32)) = (0 : Int32))))), .val (.int (bI (¬ ((p0_5 &&& (2 : Int32)) = (0 : Int32))))), .val (.int (bI (¬ ((p0_5 &&& (4 : Int32)) = (0 : Int32))))), .val (.int (bI (¬ ((p0_5 &&& (8 : Int32)) = (0 : Int32))))), .val (.long NC), .second, .val (.long NM), .second, .val (.long ND), .second, .val (.long NW), .second, .val (.ref b46), .unset, .unset] [])) _
    refine st58 _ ?_
    exact k)
  have f61 := r53_0.ext E58
  have f62 := r53_1.ext E58
  have f63 := r53_2.ext E58
  have f64 := r53_3.ext E58
  have f65 := r53_4.ext E58
  have z66 := Nat.le_trans z57 E58.1
  have f67 : Fld Z h58 b58 "com/example/nearlane/nearlane/engine/Room" "cpuMilli" "J" (.long (0 : Int64)) := D58 (Or.inr (hW 15 _ rfl)) (ty := .long) (by decide)
  have f68 : Fld Z h58 b58 "com/example/nearlane/nearlane/engine/Room" "memoryMib" "J" (.long (0 : Int64)) := D58 (Or.inr (hW 17 _ rfl)) (ty := .long) (by decide)
  have f69 : Fld Z h58 b58 "com/example/nearlane/nearlane/engine/Room" "deviceMilli" "J" (.long (0 : Int64)) := D58 (Or.inr (hW 19 _ rfl)) (ty := .long) (by decide)
  have f70 : Fld Z h58 b58 "com/example/nearlane/nearlane/engine/Room" "wholeDevices" "J" (.long (0 : Int64)) := D58 (Or.inr (hW 21 _ rfl)) (ty := .long) (by decide)
  obtain ⟨_, _, ⟨T71, L71, k71, n71⟩, -, X71, ⟨Lc71, hQ71, l71, y71, z71⟩, st71⟩ := X58.specialBack hx (y := (⟨"com/example/nearlane/nearlane/engine/Room", "<init>", "(JJJJ)V"⟩ : MethodName)) rfl hown (mvT hZ (hW 3 _ rfl)) (mvT hZ (hW 4 _ rfl)) (mvT hZ (hW 5 _ rfl)) (by decide) (backOf (W := 1) (rm1 l Z a0 hw [] b58 NC NM ND NW (0 : Int64) (0 : Int64) (0 : Int64) (0 : Int64) h58 n0 z66 A58 f67 f68 f69 f70 gz58) hZ (hW 5 _ rfl) (hW 2 _ rfl) (by decide) (by decide)) (g := (mkF m 138 #[.val (.long q0_0), .second, .val (.long q0_1), .second, .val (.long q0_2), .second, .val (.long q0_3), .second, .val (.long q0_4), .second, .val (.int p0_5), .val (.int (bI (¬ ((p0_5 &&& (1 : Int32)) = (0 : Int32))))), .val (.int (bI (¬ ((p0_5 &&& (2 : Int32)) = (0 : Int32))))), .val (.int (bI (¬ ((p0_5 &&& (4 : Int32)) = (0 : Int32))))), .val (.int (bI (¬ ((p0_5 &&& (8 : Int32)) = (0 : Int32))))), .val (.long NC), .second, .val (.long NM), .second, .val (.long ND), .second, .val (.long NW), .second, .val (.ref b46), .unset, .unset] [(.long NW), (.long ND), (.long NM), (.long NC), (.ref b58), (.ref b58)])) rfl (by rw [hml]; rfl) (Steps.refl _) (a := b58) (argsL := [(.long NC), (.long NM), (.long ND), (.long NW)]) (rest := [(.ref b58)]) (lenOf pd_2 rfl) rfl (by show 2 * 0 + _ ≤ _; exact Nat.le_of_eq rfl) (hb hby at_138) (fun _ _ => ⟨rfl, e58, (by decide : 2 + 0 ≤ _), (by decide : 8 + 0 ≤ _)⟩)
  dsimp only [Pt.U, Pt.locs, Pt.cells, Pt.slots] at X71 l71 y71 z71 st71 hQ71
  subst l71 y71 z71
  obtain ⟨rfl, N71q, K71, r71_0, r71_1, r71_2, r71_3, r71_4⟩ := hQ71
  have N72 := Fr.app N54 N71q
  have pre73 : ∀ t, Steps p.tables e below (T71.setTop (mkF m 141 #[.val (.long q0_0), .second, .val (.long q0_1), .second, .val (.long q0_2), .second, .val (.long q0_3), .second, .val (.long q0_4), .second, .val (.int p0_5), .val (.int (bI (¬ ((p0_5 &&& (1 : Int32)) = (0 : Int32))))), .val (.int (bI (¬ ((p0_5 &&& (2 : Int32)) = (0 : Int32))))), .val (.int (bI (¬ ((p0_5 &&& (4 : Int32)) = (0 : Int32))))), .val (.int (bI (¬ ((p0_5 &&& (8 : Int32)) = (0 : Int32))))), .val (.long NC), .second, .val (.long NM), .second, .val (.long ND), .second, .val (.long NW), .second, .val (.ref b46), .unset, .unset] [(.ref b58)])) t → Steps p.tables e below (s₁.setTop (entryFrame m #[(.long q0_0), (.long q0_1), (.long q0_2), (.long q0_3), (.long q0_4), (.int p0_5)] maxLocals)) t := fun t k => pre60 t (by
    show Steps p.tables e below (T58.setTop (mkF m 129 #[.val (.long q0_0), .second, .val (.long q0_1), .second, .val (.long q0_2), .second, .val (.long q0_3), .second, .val (.long q0_4), .second, .val (.int p0_5), .val (.int (bI (¬ ((p0_5 &&& (1 : Int32)) = (0 : Int32))))), .val (.int (bI (¬ ((p0_5 &&& (2 : Int32)) = (0 : Int32))))), .val (.int (bI (¬ ((p0_5 &&& (4 : Int32)) = (0 : Int32))))), .val (.int (bI (¬ ((p0_5 &&& (8 : Int32)) = (0 : Int32))))), .val (.long NC), .second, .val (.long NM), .second, .val (.long ND), .second, .val (.long NW), .second, .val (.ref b46), .unset, .unset] [(.ref b58)])) _
    refine XS.dup X58.here hx rfl (hb hby at_129) rfl rfl ?_
    show Steps p.tables e below (T58.setTop (mkF m 130 #[.val (.long q0_0), .second, .val (.long q0_1), .second, .val (.long q0_2), .second, .val (.long q0_3), .second, .val (.long q0_4), .second, .val (.int p0_5), .val (.int (bI (¬ ((p0_5 &&& (1 : Int32)) = (0 : Int32))))), .val (.int (bI (¬ ((p0_5 &&& (2 : Int32)) = (0 : Int32))))), .val (.int (bI (¬ ((p0_5 &&& (4 : Int32)) = (0 : Int32))))), .val (.int (bI (¬ ((p0_5 &&& (8 : Int32)) = (0 : Int32))))), .val (.long NC), .second, .val (.long NM), .second, .val (.long ND), .second, .val (.long NW), .second, .val (.ref b46), .unset, .unset] [(.ref b58), (.ref b58)])) _
    refine XS.lload X58.here hx rfl (hb hby at_130) rfl ?_
    show Steps p.tables e below (T58.setTop (mkF m 132 #[.val (.long q0_0), .second, .val (.long q0_1), .second, .val (.long q0_2), .second, .val (.long q0_3), .second, .val (.long q0_4), .second, .val (.int p0_5), .val (.int (bI (¬ ((p0_5 &&& (1 : Int32)) = (0 : Int32))))), .val (.int (bI (¬ ((p0_5 &&& (2 : Int32)) = (0 : Int32))))), .val (.int (bI (¬ ((p0_5 &&& (4 : Int32)) = (0 : Int32))))), .val (.int (bI (¬ ((p0_5 &&& (8 : Int32)) = (0 : Int32))))), .val (.long NC), .second, .val (.long NM), .second, .val (.long ND), .second, .val (.long NW), .second, .val (.ref b46), .unset, .unset] [(.long NC), (.ref b58), (.ref b58)])) _
    refine XS.lload X58.here hx rfl (hb hby at_132) rfl ?_
    show Steps p.tables e below (T58.setTop (mkF m 134 #[.val (.long q0_0), .second, .val (.long q0_1), .second, .val (.long q0_2), .second, .val (.long q0_3), .second, .val (.long q0_4), .second, .val (.int p0_5), .val (.int (bI (¬ ((p0_5 &&& (1 : Int32)) = (0 : Int32))))), .val (.int (bI (¬ ((p0_5 &&& (2 : Int32)) = (0 : Int32))))), .val (.int (bI (¬ ((p0_5 &&& (4 : Int32)) = (0 : Int32))))), .val (.int (bI (¬ ((p0_5 &&& (8 : Int32)) = (0 : Int32))))), .val (.long NC), .second, .val (.long NM), .second, .val (.long ND), .second, .val (.long NW), .second, .val (.ref b46), .unset, .unset] [(.long NM), (.long NC), (.ref b58), (.ref b58)])) _
    refine XS.lload X58.here hx rfl (hb hby at_134) rfl ?_
    show Steps p.tables e below (T58.setTop (mkF m 136 #[.val (.long q0_0), .second, .val (.long q0_1), .second, .val (.long q0_2), .second, .val (.long q0_3), .second, .val (.long q0_4), .second, .val (.int p0_5), .val (.int (bI (¬ ((p0_5 &&& (1 : Int32)) = (0 : Int32))))), .val (.int (bI (¬ ((p0_5 &&& (2 : Int32)) = (0 : Int32))))), .val (.int (bI (¬ ((p0_5 &&& (4 : Int32)) = (0 : Int32))))), .val (.int (bI (¬ ((p0_5 &&& (8 : Int32)) = (0 : Int32))))), .val (.long NC), .second, .val (.long NM), .second, .val (.long ND), .second, .val (.long NW), .second, .val (.ref b46), .unset, .unset] [(.long ND), (.long NM), (.long NC), (.ref b58), (.ref b58)])) _
    refine XS.lload X58.here hx rfl (hb hby at_136) rfl ?_
    show Steps p.tables e below (T58.setTop (mkF m 138 #[.val (.long q0_0), .second, .val (.long q0_1), .second, .val (.long q0_2), .second, .val (.long q0_3), .second, .val (.long q0_4), .second, .val (.int p0_5), .val (.int (bI (¬ ((p0_5 &&& (1 : Int32)) = (0 : Int32))))), .val (.int (bI (¬ ((p0_5 &&& (2 : Int32)) = (0 : Int32))))), .val (.int (bI (¬ ((p0_5 &&& (4 : Int32)) = (0 : Int32))))), .val (.int (bI (¬ ((p0_5 &&& (8 : Int32)) = (0 : Int32))))), .val (.long NC), .second, .val (.long NM), .second, .val (.long ND), .second, .val (.long NW), .second, .val (.ref b46), .unset, .unset] [(.long NW), (.long ND), (.long NM), (.long NC), (.ref b58), (.ref b58)])) _
    refine st71.trans ?_
    exact k)
  have f74 := f61.keep K71
  have f75 := f62.keep K71 (ninS ne59 nin0)
  have f76 := f63.keep K71 (ninS ne59 nin0)
  have f77 := f64.keep K71 (ninS ne59 nin0)
  have f78 := f65.keep K71 (ninS ne59 nin0)
  have f79 := A58.keep K71
  have z80 := Nat.le_trans z66 K71.1
  obtain ⟨_, _, ⟨T81, L81, k81, n81⟩, -, X81, ⟨Lc81, hQ81, l81, y81, z81⟩, st81⟩ := Jvm.LawKit.callS X71 hx (y := (⟨"com/example/nearlane/nearlane/engine/RoomHoldsPinLaw", "atLeast", "(JJ)Z"⟩ : MethodName)) hown (mvT hZ (hW 22 _ rfl)) (mvT hZ (hW 23 _ rfl)) (mvT hZ (hW 24 _ rfl)) (mvT hZ (hW 25 _ rfl)) (by decide) (backOf (W := 0) (rm4 l Z a0 hw [] q0_0 NC T71.heap n0 z80 ) hZ (hW 25 _ rfl) (hW 24 _ rfl) (by decide) (by decide)) (g := (mkF m 146 #[.val (.long q0_0), .second, .val (.long q0_1), .second, .val (.long q0_2), .second, .val (.long q0_3), .second, .val (.long q0_4), .second, .val (.int p0_5), .val (.int (bI (¬ ((p0_5 &&& (1 : Int32)) = (0 : Int32))))), .val (.int (bI (¬ ((p0_5 &&& (2 : Int32)) = (0 : Int32))))), .val (.int (bI (¬ ((p0_5 &&& (4 : Int32)) = (0 : Int32))))), .val (.int (bI (¬ ((p0_5 &&& (8 : Int32)) = (0 : Int32))))), .val (.long NC), .second, .val (.long NM), .second, .val (.long ND), .second, .val (.long NW), .second, .val (.ref b46), .val (.ref b58), .unset] [(.long NC), (.long q0_0)])) rfl (by rw [hml]; rfl) (argsL := [(.long q0_0), (.long NC)]) (rest := []) (lenOf pd_3 rfl) rfl (by show 2 * 0 + _ ≤ _; exact Nat.le_of_eq rfl) (hb hby at_146) (fun _ _ => ⟨rfl, rfl, (by decide : 2 + 0 ≤ _), (by decide : 8 + 0 ≤ _)⟩)
  dsimp only [Pt.U, Pt.locs, Pt.cells, Pt.slots] at X81 l81 y81 z81 st81 hQ81
  subst l81 y81 z81
  obtain ⟨rfl, N81q, e81⟩ := hQ81
  have N82 := Fr.app N72 N81q
  have pre83 : ∀ t, Steps p.tables e below (T81.setTop (mkF m 149 #[.val (.long q0_0), .second, .val (.long q0_1), .second, .val (.long q0_2), .second, .val (.long q0_3), .second, .val (.long q0_4), .second, .val (.int p0_5), .val (.int (bI (¬ ((p0_5 &&& (1 : Int32)) = (0 : Int32))))), .val (.int (bI (¬ ((p0_5 &&& (2 : Int32)) = (0 : Int32))))), .val (.int (bI (¬ ((p0_5 &&& (4 : Int32)) = (0 : Int32))))), .val (.int (bI (¬ ((p0_5 &&& (8 : Int32)) = (0 : Int32))))), .val (.long NC), .second, .val (.long NM), .second, .val (.long ND), .second, .val (.long NW), .second, .val (.ref b46), .val (.ref b58), .unset] [(.int (bI (¬ (q0_0 < NC))))])) t → Steps p.tables e below (s₁.setTop (entryFrame m #[(.long q0_0), (.long q0_1), (.long q0_2), (.long q0_3), (.long q0_4), (.int p0_5)] maxLocals)) t := fun t k => pre73 t (by
    show Steps p.tables e below (T71.setTop (mkF m 141 #[.val (.long q0_0), .second, .val (.long q0_1), .second, .val (.long q0_2), .second, .val (.long q0_3), .second, .val (.long q0_4), .second, .val (.int p0_5), .val (.int (bI (¬ ((p0_5 &&& (1 : Int32)) = (0 : Int32))))), .val (.int (bI (¬ ((p0_5 &&& (2 : Int32)) = (0 : Int32))))), .val (.int (bI (¬ ((p0_5 &&& (4 : Int32)) = (0 : Int32))))), .val (.int (bI (¬ ((p0_5 &&& (8 : Int32)) = (0 : Int32))))), .val (.long NC), .second, .val (.long NM), .second, .val (.long ND), .second, .val (.long NW), .second, .val (.ref b46), .unset, .unset] [(.ref b58)])) _
    refine XS.astore X71.here hx rfl (hb hby at_141) rfl rfl (l' := #[.val (.long q0_0), .second, .val (.long q0_1), .second, .val (.long q0_2), .second, .val (.long q0_3), .second, .val (.long q0_4), .second, .val (.int p0_5), .val (.int (bI (¬ ((p0_5 &&& (1 : Int32)) = (0 : Int32))))), .val (.int (bI (¬ ((p0_5 &&& (2 : Int32)) = (0 : Int32))))), .val (.int (bI (¬ ((p0_5 &&& (4 : Int32)) = (0 : Int32))))), .val (.int (bI (¬ ((p0_5 &&& (8 : Int32)) = (0 : Int32))))), .val (.long NC), .second, .val (.long NM), .second, .val (.long ND), .second, .val (.long NW), .second, .val (.ref b46), .val (.ref b58), .unset]) rfl ?_
    show Steps p.tables e below (T71.setTop (mkF m 143 #[.val (.long q0_0), .second, .val (.long q0_1), .second, .val (.long q0_2), .second, .val (.long q0_3), .second, .val (.long q0_4), .second, .val (.int p0_5), .val (.int (bI (¬ ((p0_5 &&& (1 : Int32)) = (0 : Int32))))), .val (.int (bI (¬ ((p0_5 &&& (2 : Int32)) = (0 : Int32))))), .val (.int (bI (¬ ((p0_5 &&& (4 : Int32)) = (0 : Int32))))), .val (.int (bI (¬ ((p0_5 &&& (8 : Int32)) = (0 : Int32))))), .val (.long NC), .second, .val (.long NM), .second, .val (.long ND), .second, .val (.long NW), .second, .val (.ref b46), .val (.ref b58), .unset] [])) _
    refine XS.lloadN X71.here hx rfl (hb hby at_143) rfl ?_
    show Steps p.tables e below (T71.setTop (mkF m 144 #[.val (.long q0_0), .second, .val (.long q0_1), .second, .val (.long q0_2), .second, .val (.long q0_3), .second, .val (.long q0_4), .second, .val (.int p0_5), .val (.int (bI (¬ ((p0_5 &&& (1 : Int32)) = (0 : Int32))))), .val (.int (bI (¬ ((p0_5 &&& (2 : Int32)) = (0 : Int32))))), .val (.int (bI (¬ ((p0_5 &&& (4 : Int32)) = (0 : Int32))))), .val (.int (bI (¬ ((p0_5 &&& (8 : Int32)) = (0 : Int32))))), .val (.long NC), .second, .val (.long NM), .second, .val (.long ND), .second, .val (.long NW), .second, .val (.ref b46), .val (.ref b58), .unset] [(.long q0_0)])) _
    refine XS.lload X71.here hx rfl (hb hby at_144) rfl ?_
    show Steps p.tables e below (T71.setTop (mkF m 146 #[.val (.long q0_0), .second, .val (.long q0_1), .second, .val (.long q0_2), .second, .val (.long q0_3), .second, .val (.long q0_4), .second, .val (.int p0_5), .val (.int (bI (¬ ((p0_5 &&& (1 : Int32)) = (0 : Int32))))), .val (.int (bI (¬ ((p0_5 &&& (2 : Int32)) = (0 : Int32))))), .val (.int (bI (¬ ((p0_5 &&& (4 : Int32)) = (0 : Int32))))), .val (.int (bI (¬ ((p0_5 &&& (8 : Int32)) = (0 : Int32))))), .val (.long NC), .second, .val (.long NM), .second, .val (.long ND), .second, .val (.long NW), .second, .val (.ref b46), .val (.ref b58), .unset] [(.long NC), (.long q0_0)])) _
    refine st81 _ ?_
    exact k)
  obtain ⟨_, _, ⟨T84, L84, k84, n84⟩, -, X84, ⟨Lc84, hQ84, l84, y84, z84⟩, st84⟩ := Jvm.LawKit.callS X81 hx (y := (⟨"com/example/nearlane/nearlane/engine/RoomHoldsPinLaw", "atLeast", "(JJ)Z"⟩ : MethodName)) hown (mvT hZ (hW 22 _ rfl)) (mvT hZ (hW 23 _ rfl)) (mvT hZ (hW 24 _ rfl)) (mvT hZ (hW 25 _ rfl)) (by decide) (backOf (W := 1) (rm4 l Z a0 hw [] q0_1 NM T71.heap n0 z80 ) hZ (hW 25 _ rfl) (hW 24 _ rfl) (by decide) (by decide)) (g := (mkF m 152 #[.val (.long q0_0), .second, .val (.long q0_1), .second, .val (.long q0_2), .second, .val (.long q0_3), .second, .val (.long q0_4), .second, .val (.int p0_5), .val (.int (bI (¬ ((p0_5 &&& (1 : Int32)) = (0 : Int32))))), .val (.int (bI (¬ ((p0_5 &&& (2 : Int32)) = (0 : Int32))))), .val (.int (bI (¬ ((p0_5 &&& (4 : Int32)) = (0 : Int32))))), .val (.int (bI (¬ ((p0_5 &&& (8 : Int32)) = (0 : Int32))))), .val (.long NC), .second, .val (.long NM), .second, .val (.long ND), .second, .val (.long NW), .second, .val (.ref b46), .val (.ref b58), .unset] [(.long NM), (.long q0_1), (.int (bI (¬ (q0_0 < NC))))])) rfl (by rw [hml]; rfl) (argsL := [(.long q0_1), (.long NM)]) (rest := [(.int (bI (¬ (q0_0 < NC))))]) (lenOf pd_3 rfl) rfl (by show 2 * 0 + _ ≤ _; exact Nat.le_of_eq rfl) (hb hby at_152) (fun _ _ => ⟨rfl, e81, (by decide : 2 + 0 ≤ _), (by decide : 8 + 0 ≤ _)⟩)
  dsimp only [Pt.U, Pt.locs, Pt.cells, Pt.slots] at X84 l84 y84 z84 st84 hQ84
  subst l84 y84 z84
  obtain ⟨rfl, N84q, e84⟩ := hQ84
  have N85 := Fr.app N82 N84q
  have pre86 : ∀ t, Steps p.tables e below (T84.setTop (mkF m 155 #[.val (.long q0_0), .second, .val (.long q0_1), .second, .val (.long q0_2), .second, .val (.long q0_3), .second, .val (.long q0_4), .second, .val (.int p0_5), .val (.int (bI (¬ ((p0_5 &&& (1 : Int32)) = (0 : Int32))))), .val (.int (bI (¬ ((p0_5 &&& (2 : Int32)) = (0 : Int32))))), .val (.int (bI (¬ ((p0_5 &&& (4 : Int32)) = (0 : Int32))))), .val (.int (bI (¬ ((p0_5 &&& (8 : Int32)) = (0 : Int32))))), .val (.long NC), .second, .val (.long NM), .second, .val (.long ND), .second, .val (.long NW), .second, .val (.ref b46), .val (.ref b58), .unset] [(.int (bI (¬ (q0_1 < NM)))), (.int (bI (¬ (q0_0 < NC))))])) t → Steps p.tables e below (s₁.setTop (entryFrame m #[(.long q0_0), (.long q0_1), (.long q0_2), (.long q0_3), (.long q0_4), (.int p0_5)] maxLocals)) t := fun t k => pre83 t (by
    show Steps p.tables e below (T81.setTop (mkF m 149 #[.val (.long q0_0), .second, .val (.long q0_1), .second, .val (.long q0_2), .second, .val (.long q0_3), .second, .val (.long q0_4), .second, .val (.int p0_5), .val (.int (bI (¬ ((p0_5 &&& (1 : Int32)) = (0 : Int32))))), .val (.int (bI (¬ ((p0_5 &&& (2 : Int32)) = (0 : Int32))))), .val (.int (bI (¬ ((p0_5 &&& (4 : Int32)) = (0 : Int32))))), .val (.int (bI (¬ ((p0_5 &&& (8 : Int32)) = (0 : Int32))))), .val (.long NC), .second, .val (.long NM), .second, .val (.long ND), .second, .val (.long NW), .second, .val (.ref b46), .val (.ref b58), .unset] [(.int (bI (¬ (q0_0 < NC))))])) _
    refine XS.lloadN X81.here hx rfl (hb hby at_149) rfl ?_
    show Steps p.tables e below (T81.setTop (mkF m 150 #[.val (.long q0_0), .second, .val (.long q0_1), .second, .val (.long q0_2), .second, .val (.long q0_3), .second, .val (.long q0_4), .second, .val (.int p0_5), .val (.int (bI (¬ ((p0_5 &&& (1 : Int32)) = (0 : Int32))))), .val (.int (bI (¬ ((p0_5 &&& (2 : Int32)) = (0 : Int32))))), .val (.int (bI (¬ ((p0_5 &&& (4 : Int32)) = (0 : Int32))))), .val (.int (bI (¬ ((p0_5 &&& (8 : Int32)) = (0 : Int32))))), .val (.long NC), .second, .val (.long NM), .second, .val (.long ND), .second, .val (.long NW), .second, .val (.ref b46), .val (.ref b58), .unset] [(.long q0_1), (.int (bI (¬ (q0_0 < NC))))])) _
    refine XS.lload X81.here hx rfl (hb hby at_150) rfl ?_
    show Steps p.tables e below (T81.setTop (mkF m 152 #[.val (.long q0_0), .second, .val (.long q0_1), .second, .val (.long q0_2), .second, .val (.long q0_3), .second, .val (.long q0_4), .second, .val (.int p0_5), .val (.int (bI (¬ ((p0_5 &&& (1 : Int32)) = (0 : Int32))))), .val (.int (bI (¬ ((p0_5 &&& (2 : Int32)) = (0 : Int32))))), .val (.int (bI (¬ ((p0_5 &&& (4 : Int32)) = (0 : Int32))))), .val (.int (bI (¬ ((p0_5 &&& (8 : Int32)) = (0 : Int32))))), .val (.long NC), .second, .val (.long NM), .second, .val (.long ND), .second, .val (.long NW), .second, .val (.ref b46), .val (.ref b58), .unset] [(.long NM), (.long q0_1), (.int (bI (¬ (q0_0 < NC))))])) _
    refine st84 _ ?_
    exact k)
  obtain ⟨_, _, ⟨T87, L87, k87, n87⟩, -, X87, ⟨Lc87, hQ87, l87, y87, z87⟩, st87⟩ := Jvm.LawKit.callS X84 hx (y := (⟨"com/example/nearlane/nearlane/engine/RoomHoldsPinLaw", "atLeast", "(JJ)Z"⟩ : MethodName)) hown (mvT hZ (hW 22 _ rfl)) (mvT hZ (hW 23 _ rfl)) (mvT hZ (hW 24 _ rfl)) (mvT hZ (hW 25 _ rfl)) (by decide) (backOf (W := 1) (rm4 l Z a0 hw [] q0_2 ND T71.heap n0 z80 ) hZ (hW 25 _ rfl) (hW 24 _ rfl) (by decide) (by decide)) (g := (mkF m 160 #[.val (.long q0_0), .second, .val (.long q0_1), .second, .val (.long q0_2), .second, .val (.long q0_3), .second, .val (.long q0_4), .second, .val (.int p0_5), .val (.int (bI (¬ ((p0_5 &&& (1 : Int32)) = (0 : Int32))))), .val (.int (bI (¬ ((p0_5 &&& (2 : Int32)) = (0 : Int32))))), .val (.int (bI (¬ ((p0_5 &&& (4 : Int32)) = (0 : Int32))))), .val (.int (bI (¬ ((p0_5 &&& (8 : Int32)) = (0 : Int32))))), .val (.long NC), .second, .val (.long NM), .second, .val (.long ND), .second, .val (.long NW), .second, .val (.ref b46), .val (.ref b58), .unset] [(.long ND), (.long q0_2), (.int ((bI (¬ (q0_0 < NC))) &&& (bI (¬ (q0_1 < NM)))))])) rfl (by rw [hml]; rfl) (argsL := [(.long q0_2), (.long ND)]) (rest := [(.int ((bI (¬ (q0_0 < NC))) &&& (bI (¬ (q0_1 < NM)))))]) (lenOf pd_3 rfl) rfl (by show 2 * 0 + _ ≤ _; exact Nat.le_of_eq rfl) (hb hby at_160) (fun _ _ => ⟨rfl, e84, (by decide : 2 + 0 ≤ _), (by decide : 8 + 0 ≤ _)⟩)
  dsimp only [Pt.U, Pt.locs, Pt.cells, Pt.slots] at X87 l87 y87 z87 st87 hQ87
  subst l87 y87 z87
  obtain ⟨rfl, N87q, e87⟩ := hQ87
  have N88 := Fr.app N85 N87q
  have pre89 : ∀ t, Steps p.tables e below (T87.setTop (mkF m 163 #[.val (.long q0_0), .second, .val (.long q0_1), .second, .val (.long q0_2), .second, .val (.long q0_3), .second, .val (.long q0_4), .second, .val (.int p0_5), .val (.int (bI (¬ ((p0_5 &&& (1 : Int32)) = (0 : Int32))))), .val (.int (bI (¬ ((p0_5 &&& (2 : Int32)) = (0 : Int32))))), .val (.int (bI (¬ ((p0_5 &&& (4 : Int32)) = (0 : Int32))))), .val (.int (bI (¬ ((p0_5 &&& (8 : Int32)) = (0 : Int32))))), .val (.long NC), .second, .val (.long NM), .second, .val (.long ND), .second, .val (.long NW), .second, .val (.ref b46), .val (.ref b58), .unset] [(.int (bI (¬ (q0_2 < ND)))), (.int ((bI (¬ (q0_0 < NC))) &&& (bI (¬ (q0_1 < NM)))))])) t → Steps p.tables e below (s₁.setTop (entryFrame m #[(.long q0_0), (.long q0_1), (.long q0_2), (.long q0_3), (.long q0_4), (.int p0_5)] maxLocals)) t := fun t k => pre86 t (by
    show Steps p.tables e below (T84.setTop (mkF m 155 #[.val (.long q0_0), .second, .val (.long q0_1), .second, .val (.long q0_2), .second, .val (.long q0_3), .second, .val (.long q0_4), .second, .val (.int p0_5), .val (.int (bI (¬ ((p0_5 &&& (1 : Int32)) = (0 : Int32))))), .val (.int (bI (¬ ((p0_5 &&& (2 : Int32)) = (0 : Int32))))), .val (.int (bI (¬ ((p0_5 &&& (4 : Int32)) = (0 : Int32))))), .val (.int (bI (¬ ((p0_5 &&& (8 : Int32)) = (0 : Int32))))), .val (.long NC), .second, .val (.long NM), .second, .val (.long ND), .second, .val (.long NW), .second, .val (.ref b46), .val (.ref b58), .unset] [(.int (bI (¬ (q0_1 < NM)))), (.int (bI (¬ (q0_0 < NC))))])) _
    refine XS.iand X84.here hx rfl (hb hby at_155) rfl ?_
    show Steps p.tables e below (T84.setTop (mkF m 156 #[.val (.long q0_0), .second, .val (.long q0_1), .second, .val (.long q0_2), .second, .val (.long q0_3), .second, .val (.long q0_4), .second, .val (.int p0_5), .val (.int (bI (¬ ((p0_5 &&& (1 : Int32)) = (0 : Int32))))), .val (.int (bI (¬ ((p0_5 &&& (2 : Int32)) = (0 : Int32))))), .val (.int (bI (¬ ((p0_5 &&& (4 : Int32)) = (0 : Int32))))), .val (.int (bI (¬ ((p0_5 &&& (8 : Int32)) = (0 : Int32))))), .val (.long NC), .second, .val (.long NM), .second, .val (.long ND), .second, .val (.long NW), .second, .val (.ref b46), .val (.ref b58), .unset] [(.int ((bI (¬ (q0_0 < NC))) &&& (bI (¬ (q0_1 < NM)))))])) _
    refine XS.lload X84.here hx rfl (hb hby at_156) rfl ?_
    show Steps p.tables e below (T84.setTop (mkF m 158 #[.val (.long q0_0), .second, .val (.long q0_1), .second, .val (.long q0_2), .second, .val (.long q0_3), .second, .val (.long q0_4), .second, .val (.int p0_5), .val (.int (bI (¬ ((p0_5 &&& (1 : Int32)) = (0 : Int32))))), .val (.int (bI (¬ ((p0_5 &&& (2 : Int32)) = (0 : Int32))))), .val (.int (bI (¬ ((p0_5 &&& (4 : Int32)) = (0 : Int32))))), .val (.int (bI (¬ ((p0_5 &&& (8 : Int32)) = (0 : Int32))))), .val (.long NC), .second, .val (.long NM), .second, .val (.long ND), .second, .val (.long NW), .second, .val (.ref b46), .val (.ref b58), .unset] [(.long q0_2), (.int ((bI (¬ (q0_0 < NC))) &&& (bI (¬ (q0_1 < NM)))))])) _
    refine XS.lload X84.here hx rfl (hb hby at_158) rfl ?_
    show Steps p.tables e below (T84.setTop (mkF m 160 #[.val (.long q0_0), .second, .val (.long q0_1), .second, .val (.long q0_2), .second, .val (.long q0_3), .second, .val (.long q0_4), .second, .val (.int p0_5), .val (.int (bI (¬ ((p0_5 &&& (1 : Int32)) = (0 : Int32))))), .val (.int (bI (¬ ((p0_5 &&& (2 : Int32)) = (0 : Int32))))), .val (.int (bI (¬ ((p0_5 &&& (4 : Int32)) = (0 : Int32))))), .val (.int (bI (¬ ((p0_5 &&& (8 : Int32)) = (0 : Int32))))), .val (.long NC), .second, .val (.long NM), .second, .val (.long ND), .second, .val (.long NW), .second, .val (.ref b46), .val (.ref b58), .unset] [(.long ND), (.long q0_2), (.int ((bI (¬ (q0_0 < NC))) &&& (bI (¬ (q0_1 < NM)))))])) _
    refine st87 _ ?_
    exact k)
  obtain ⟨_, _, ⟨T90, L90, k90, n90⟩, -, X90, ⟨Lc90, hQ90, l90, y90, z90⟩, st90⟩ := Jvm.LawKit.callS X87 hx (y := (⟨"com/example/nearlane/nearlane/engine/RoomHoldsPinLaw", "atLeast", "(JJ)Z"⟩ : MethodName)) hown (mvT hZ (hW 22 _ rfl)) (mvT hZ (hW 23 _ rfl)) (mvT hZ (hW 24 _ rfl)) (mvT hZ (hW 25 _ rfl)) (by decide) (backOf (W := 1) (rm4 l Z a0 hw [] q0_3 NW T71.heap n0 z80 ) hZ (hW 25 _ rfl) (hW 24 _ rfl) (by decide) (by decide)) (g := (mkF m 168 #[.val (.long q0_0), .second, .val (.long q0_1), .second, .val (.long q0_2), .second, .val (.long q0_3), .second, .val (.long q0_4), .second, .val (.int p0_5), .val (.int (bI (¬ ((p0_5 &&& (1 : Int32)) = (0 : Int32))))), .val (.int (bI (¬ ((p0_5 &&& (2 : Int32)) = (0 : Int32))))), .val (.int (bI (¬ ((p0_5 &&& (4 : Int32)) = (0 : Int32))))), .val (.int (bI (¬ ((p0_5 &&& (8 : Int32)) = (0 : Int32))))), .val (.long NC), .second, .val (.long NM), .second, .val (.long ND), .second, .val (.long NW), .second, .val (.ref b46), .val (.ref b58), .unset] [(.long NW), (.long q0_3), (.int (((bI (¬ (q0_0 < NC))) &&& (bI (¬ (q0_1 < NM)))) &&& (bI (¬ (q0_2 < ND)))))])) rfl (by rw [hml]; rfl) (argsL := [(.long q0_3), (.long NW)]) (rest := [(.int (((bI (¬ (q0_0 < NC))) &&& (bI (¬ (q0_1 < NM)))) &&& (bI (¬ (q0_2 < ND)))))]) (lenOf pd_3 rfl) rfl (by show 2 * 0 + _ ≤ _; exact Nat.le_of_eq rfl) (hb hby at_168) (fun _ _ => ⟨rfl, e87, (by decide : 2 + 0 ≤ _), (by decide : 8 + 0 ≤ _)⟩)
  dsimp only [Pt.U, Pt.locs, Pt.cells, Pt.slots] at X90 l90 y90 z90 st90 hQ90
  subst l90 y90 z90
  obtain ⟨rfl, N90q, e90⟩ := hQ90
  have N91 := Fr.app N88 N90q
  have pre92 : ∀ t, Steps p.tables e below (T90.setTop (mkF m 171 #[.val (.long q0_0), .second, .val (.long q0_1), .second, .val (.long q0_2), .second, .val (.long q0_3), .second, .val (.long q0_4), .second, .val (.int p0_5), .val (.int (bI (¬ ((p0_5 &&& (1 : Int32)) = (0 : Int32))))), .val (.int (bI (¬ ((p0_5 &&& (2 : Int32)) = (0 : Int32))))), .val (.int (bI (¬ ((p0_5 &&& (4 : Int32)) = (0 : Int32))))), .val (.int (bI (¬ ((p0_5 &&& (8 : Int32)) = (0 : Int32))))), .val (.long NC), .second, .val (.long NM), .second, .val (.long ND), .second, .val (.long NW), .second, .val (.ref b46), .val (.ref b58), .unset] [(.int (bI (¬ (q0_3 < NW)))), (.int (((bI (¬ (q0_0 < NC))) &&& (bI (¬ (q0_1 < NM)))) &&& (bI (¬ (q0_2 < ND)))))])) t → Steps p.tables e below (s₁.setTop (entryFrame m #[(.long q0_0), (.long q0_1), (.long q0_2), (.long q0_3), (.long q0_4), (.int p0_5)] maxLocals)) t := fun t k => pre89 t (by
    show Steps p.tables e below (T87.setTop (mkF m 163 #[.val (.long q0_0), .second, .val (.long q0_1), .second, .val (.long q0_2), .second, .val (.long q0_3), .second, .val (.long q0_4), .second, .val (.int p0_5), .val (.int (bI (¬ ((p0_5 &&& (1 : Int32)) = (0 : Int32))))), .val (.int (bI (¬ ((p0_5 &&& (2 : Int32)) = (0 : Int32))))), .val (.int (bI (¬ ((p0_5 &&& (4 : Int32)) = (0 : Int32))))), .val (.int (bI (¬ ((p0_5 &&& (8 : Int32)) = (0 : Int32))))), .val (.long NC), .second, .val (.long NM), .second, .val (.long ND), .second, .val (.long NW), .second, .val (.ref b46), .val (.ref b58), .unset] [(.int (bI (¬ (q0_2 < ND)))), (.int ((bI (¬ (q0_0 < NC))) &&& (bI (¬ (q0_1 < NM)))))])) _
    refine XS.iand X87.here hx rfl (hb hby at_163) rfl ?_
    show Steps p.tables e below (T87.setTop (mkF m 164 #[.val (.long q0_0), .second, .val (.long q0_1), .second, .val (.long q0_2), .second, .val (.long q0_3), .second, .val (.long q0_4), .second, .val (.int p0_5), .val (.int (bI (¬ ((p0_5 &&& (1 : Int32)) = (0 : Int32))))), .val (.int (bI (¬ ((p0_5 &&& (2 : Int32)) = (0 : Int32))))), .val (.int (bI (¬ ((p0_5 &&& (4 : Int32)) = (0 : Int32))))), .val (.int (bI (¬ ((p0_5 &&& (8 : Int32)) = (0 : Int32))))), .val (.long NC), .second, .val (.long NM), .second, .val (.long ND), .second, .val (.long NW), .second, .val (.ref b46), .val (.ref b58), .unset] [(.int (((bI (¬ (q0_0 < NC))) &&& (bI (¬ (q0_1 < NM)))) &&& (bI (¬ (q0_2 < ND)))))])) _
    refine XS.lload X87.here hx rfl (hb hby at_164) rfl ?_
    show Steps p.tables e below (T87.setTop (mkF m 166 #[.val (.long q0_0), .second, .val (.long q0_1), .second, .val (.long q0_2), .second, .val (.long q0_3), .second, .val (.long q0_4), .second, .val (.int p0_5), .val (.int (bI (¬ ((p0_5 &&& (1 : Int32)) = (0 : Int32))))), .val (.int (bI (¬ ((p0_5 &&& (2 : Int32)) = (0 : Int32))))), .val (.int (bI (¬ ((p0_5 &&& (4 : Int32)) = (0 : Int32))))), .val (.int (bI (¬ ((p0_5 &&& (8 : Int32)) = (0 : Int32))))), .val (.long NC), .second, .val (.long NM), .second, .val (.long ND), .second, .val (.long NW), .second, .val (.ref b46), .val (.ref b58), .unset] [(.long q0_3), (.int (((bI (¬ (q0_0 < NC))) &&& (bI (¬ (q0_1 < NM)))) &&& (bI (¬ (q0_2 < ND)))))])) _
    refine XS.lload X87.here hx rfl (hb hby at_166) rfl ?_
    show Steps p.tables e below (T87.setTop (mkF m 168 #[.val (.long q0_0), .second, .val (.long q0_1), .second, .val (.long q0_2), .second, .val (.long q0_3), .second, .val (.long q0_4), .second, .val (.int p0_5), .val (.int (bI (¬ ((p0_5 &&& (1 : Int32)) = (0 : Int32))))), .val (.int (bI (¬ ((p0_5 &&& (2 : Int32)) = (0 : Int32))))), .val (.int (bI (¬ ((p0_5 &&& (4 : Int32)) = (0 : Int32))))), .val (.int (bI (¬ ((p0_5 &&& (8 : Int32)) = (0 : Int32))))), .val (.long NC), .second, .val (.long NM), .second, .val (.long ND), .second, .val (.long NW), .second, .val (.ref b46), .val (.ref b58), .unset] [(.long NW), (.long q0_3), (.int (((bI (¬ (q0_0 < NC))) &&& (bI (¬ (q0_1 < NM)))) &&& (bI (¬ (q0_2 < ND)))))])) _
    refine st90 _ ?_
    exact k)
  obtain ⟨cq93, kq93, q93a, q93b, q93c⟩ := isOf hZ e90 f74
  obtain ⟨_, _, ⟨T93, L93, k93, n93⟩, -, X93, ⟨Lc93, hQ93, l93, y93, z93⟩, st93⟩ := X90.virtualBack hx (y := (⟨"com/example/nearlane/nearlane/engine/Room", "holds", "(Lcom/example/nearlane/nearlane/engine/Room;)Z"⟩ : MethodName)) (z := (⟨"com/example/nearlane/nearlane/engine/Room", "holds", "(Lcom/example/nearlane/nearlane/engine/Room;)Z"⟩ : MethodName)) hown (mvT hZ (hW 30 _ rfl)) (mvT hZ (hW 31 _ rfl)) (notFace_of_selects (args := #[]) (mvT hZ (hW 33 _ rfl))) (mvT hZ (hW 33 _ rfl)) (mvT hZ (hW 32 _ rfl)) (by decide) (backOf (W := 0) (rm6 l Z a0 hw [] b46 b58 q0_0 NC q0_1 NM q0_2 ND q0_3 NW T71.heap n0 z80 f75 r71_1 f76 r71_2 f77 r71_3 f78 r71_4) hZ (hW 34 _ rfl) (hW 2 _ rfl) (by decide) (by decide)) q93a q93c (g := (mkF m 178 #[.val (.long q0_0), .second, .val (.long q0_1), .second, .val (.long q0_2), .second, .val (.long q0_3), .second, .val (.long q0_4), .second, .val (.int p0_5), .val (.int (bI (¬ ((p0_5 &&& (1 : Int32)) = (0 : Int32))))), .val (.int (bI (¬ ((p0_5 &&& (2 : Int32)) = (0 : Int32))))), .val (.int (bI (¬ ((p0_5 &&& (4 : Int32)) = (0 : Int32))))), .val (.int (bI (¬ ((p0_5 &&& (8 : Int32)) = (0 : Int32))))), .val (.long NC), .second, .val (.long NM), .second, .val (.long ND), .second, .val (.long NW), .second, .val (.ref b46), .val (.ref b58), .val (.int ((((bI (¬ (q0_0 < NC))) &&& (bI (¬ (q0_1 < NM)))) &&& (bI (¬ (q0_2 < ND)))) &&& (bI (¬ (q0_3 < NW)))))] [(.ref b58), (.ref b46)])) rfl (by rw [hml]; rfl) (Steps.refl _) (argsL := [(.ref b58)]) (rest := []) (lenOf pd_4 rfl) rfl (by show 2 * 0 + _ ≤ _; exact Nat.le_of_eq rfl) (hb hby at_178) (fun _ _ => ⟨rfl, e90, (by decide : 2 + 0 ≤ _), (by decide : 8 + 0 ≤ _)⟩)
  dsimp only [Pt.U, Pt.locs, Pt.cells, Pt.slots] at X93 l93 y93 z93 st93 hQ93
  subst l93 y93 z93
  obtain ⟨rfl, N93q, e93⟩ := hQ93
  have N94 := Fr.app N91 N93q
  have pre95 : ∀ t, Steps p.tables e below (T93.setTop (mkF m 181 #[.val (.long q0_0), .second, .val (.long q0_1), .second, .val (.long q0_2), .second, .val (.long q0_3), .second, .val (.long q0_4), .second, .val (.int p0_5), .val (.int (bI (¬ ((p0_5 &&& (1 : Int32)) = (0 : Int32))))), .val (.int (bI (¬ ((p0_5 &&& (2 : Int32)) = (0 : Int32))))), .val (.int (bI (¬ ((p0_5 &&& (4 : Int32)) = (0 : Int32))))), .val (.int (bI (¬ ((p0_5 &&& (8 : Int32)) = (0 : Int32))))), .val (.long NC), .second, .val (.long NM), .second, .val (.long ND), .second, .val (.long NW), .second, .val (.ref b46), .val (.ref b58), .val (.int ((((bI (¬ (q0_0 < NC))) &&& (bI (¬ (q0_1 < NM)))) &&& (bI (¬ (q0_2 < ND)))) &&& (bI (¬ (q0_3 < NW)))))] [(.int (bI (¬ (q0_0 < NC) ∧ (¬ (q0_1 < NM) ∧ (¬ (q0_2 < ND) ∧ (¬ (q0_3 < NW)))))))])) t → Steps p.tables e below (s₁.setTop (entryFrame m #[(.long q0_0), (.long q0_1), (.long q0_2), (.long q0_3), (.long q0_4), (.int p0_5)] maxLocals)) t := fun t k => pre92 t (by
    show Steps p.tables e below (T90.setTop (mkF m 171 #[.val (.long q0_0), .second, .val (.long q0_1), .second, .val (.long q0_2), .second, .val (.long q0_3), .second, .val (.long q0_4), .second, .val (.int p0_5), .val (.int (bI (¬ ((p0_5 &&& (1 : Int32)) = (0 : Int32))))), .val (.int (bI (¬ ((p0_5 &&& (2 : Int32)) = (0 : Int32))))), .val (.int (bI (¬ ((p0_5 &&& (4 : Int32)) = (0 : Int32))))), .val (.int (bI (¬ ((p0_5 &&& (8 : Int32)) = (0 : Int32))))), .val (.long NC), .second, .val (.long NM), .second, .val (.long ND), .second, .val (.long NW), .second, .val (.ref b46), .val (.ref b58), .unset] [(.int (bI (¬ (q0_3 < NW)))), (.int (((bI (¬ (q0_0 < NC))) &&& (bI (¬ (q0_1 < NM)))) &&& (bI (¬ (q0_2 < ND)))))])) _
    refine XS.iand X90.here hx rfl (hb hby at_171) rfl ?_
    show Steps p.tables e below (T90.setTop (mkF m 172 #[.val (.long q0_0), .second, .val (.long q0_1), .second, .val (.long q0_2), .second, .val (.long q0_3), .second, .val (.long q0_4), .second, .val (.int p0_5), .val (.int (bI (¬ ((p0_5 &&& (1 : Int32)) = (0 : Int32))))), .val (.int (bI (¬ ((p0_5 &&& (2 : Int32)) = (0 : Int32))))), .val (.int (bI (¬ ((p0_5 &&& (4 : Int32)) = (0 : Int32))))), .val (.int (bI (¬ ((p0_5 &&& (8 : Int32)) = (0 : Int32))))), .val (.long NC), .second, .val (.long NM), .second, .val (.long ND), .second, .val (.long NW), .second, .val (.ref b46), .val (.ref b58), .unset] [(.int ((((bI (¬ (q0_0 < NC))) &&& (bI (¬ (q0_1 < NM)))) &&& (bI (¬ (q0_2 < ND)))) &&& (bI (¬ (q0_3 < NW)))))])) _
    refine XS.istore X90.here hx rfl (hb hby at_172) rfl (l' := #[.val (.long q0_0), .second, .val (.long q0_1), .second, .val (.long q0_2), .second, .val (.long q0_3), .second, .val (.long q0_4), .second, .val (.int p0_5), .val (.int (bI (¬ ((p0_5 &&& (1 : Int32)) = (0 : Int32))))), .val (.int (bI (¬ ((p0_5 &&& (2 : Int32)) = (0 : Int32))))), .val (.int (bI (¬ ((p0_5 &&& (4 : Int32)) = (0 : Int32))))), .val (.int (bI (¬ ((p0_5 &&& (8 : Int32)) = (0 : Int32))))), .val (.long NC), .second, .val (.long NM), .second, .val (.long ND), .second, .val (.long NW), .second, .val (.ref b46), .val (.ref b58), .val (.int ((((bI (¬ (q0_0 < NC))) &&& (bI (¬ (q0_1 < NM)))) &&& (bI (¬ (q0_2 < ND)))) &&& (bI (¬ (q0_3 < NW)))))]) rfl ?_
    show Steps p.tables e below (T90.setTop (mkF m 174 #[.val (.long q0_0), .second, .val (.long q0_1), .second, .val (.long q0_2), .second, .val (.long q0_3), .second, .val (.long q0_4), .second, .val (.int p0_5), .val (.int (bI (¬ ((p0_5 &&& (1 : Int32)) = (0 : Int32))))), .val (.int (bI (¬ ((p0_5 &&& (2 : Int32)) = (0 : Int32))))), .val (.int (bI (¬ ((p0_5 &&& (4 : Int32)) = (0 : Int32))))), .val (.int (bI (¬ ((p0_5 &&& (8 : Int32)) = (0 : Int32))))), .val (.long NC), .second, .val (.long NM), .second, .val (.long ND), .second, .val (.long NW), .second, .val (.ref b46), .val (.ref b58), .val (.int ((((bI (¬ (q0_0 < NC))) &&& (bI (¬ (q0_1 < NM)))) &&& (bI (¬ (q0_2 < ND)))) &&& (bI (¬ (q0_3 < NW)))))] [])) _
    refine XS.aload X90.here hx rfl (hb hby at_174) rfl rfl ?_
    show Steps p.tables e below (T90.setTop (mkF m 176 #[.val (.long q0_0), .second, .val (.long q0_1), .second, .val (.long q0_2), .second, .val (.long q0_3), .second, .val (.long q0_4), .second, .val (.int p0_5), .val (.int (bI (¬ ((p0_5 &&& (1 : Int32)) = (0 : Int32))))), .val (.int (bI (¬ ((p0_5 &&& (2 : Int32)) = (0 : Int32))))), .val (.int (bI (¬ ((p0_5 &&& (4 : Int32)) = (0 : Int32))))), .val (.int (bI (¬ ((p0_5 &&& (8 : Int32)) = (0 : Int32))))), .val (.long NC), .second, .val (.long NM), .second, .val (.long ND), .second, .val (.long NW), .second, .val (.ref b46), .val (.ref b58), .val (.int ((((bI (¬ (q0_0 < NC))) &&& (bI (¬ (q0_1 < NM)))) &&& (bI (¬ (q0_2 < ND)))) &&& (bI (¬ (q0_3 < NW)))))] [(.ref b46)])) _
    refine XS.aload X90.here hx rfl (hb hby at_176) rfl rfl ?_
    show Steps p.tables e below (T90.setTop (mkF m 178 #[.val (.long q0_0), .second, .val (.long q0_1), .second, .val (.long q0_2), .second, .val (.long q0_3), .second, .val (.long q0_4), .second, .val (.int p0_5), .val (.int (bI (¬ ((p0_5 &&& (1 : Int32)) = (0 : Int32))))), .val (.int (bI (¬ ((p0_5 &&& (2 : Int32)) = (0 : Int32))))), .val (.int (bI (¬ ((p0_5 &&& (4 : Int32)) = (0 : Int32))))), .val (.int (bI (¬ ((p0_5 &&& (8 : Int32)) = (0 : Int32))))), .val (.long NC), .second, .val (.long NM), .second, .val (.long ND), .second, .val (.long NW), .second, .val (.ref b46), .val (.ref b58), .val (.int ((((bI (¬ (q0_0 < NC))) &&& (bI (¬ (q0_1 < NM)))) &&& (bI (¬ (q0_2 < ND)))) &&& (bI (¬ (q0_3 < NW)))))] [(.ref b58), (.ref b46)])) _
    refine st93.trans ?_
    exact k)
  have hd96 : (bI (¬ (q0_0 < NC) ∧ (¬ (q0_1 < NM) ∧ (¬ (q0_2 < ND) ∧ (¬ (q0_3 < NW)))))) = ((((bI (¬ (q0_0 < NC))) &&& (bI (¬ (q0_1 < NM)))) &&& (bI (¬ (q0_2 < ND)))) &&& (bI (¬ (q0_3 < NW)))) := by
    rw [bI_and, bI_and, bI_and]
    exact bI_iff ⟨fun ⟨a, b, c, d⟩ => ⟨⟨⟨a, b⟩, c⟩, d⟩, fun ⟨⟨⟨a, b⟩, c⟩, d⟩ => ⟨a, b, c, d⟩⟩
  obtain ⟨fs, hr, hrun, hended, hW, hsame⟩ := X93.leave (v := some (.int (1 : Int32))) (fun h => by rw [Bd.returns] at h; cases h)
  refine ⟨_, _, pre95 _ ?_, hrun, hended, _, _, rfl, ?_, ⟨_, rfl⟩, hW, hsame.mono (by decide) (by decide)⟩
  · show Steps p.tables e below (T93.setTop (mkF m 181 #[.val (.long q0_0), .second, .val (.long q0_1), .second, .val (.long q0_2), .second, .val (.long q0_3), .second, .val (.long q0_4), .second, .val (.int p0_5), .val (.int (bI (¬ ((p0_5 &&& (1 : Int32)) = (0 : Int32))))), .val (.int (bI (¬ ((p0_5 &&& (2 : Int32)) = (0 : Int32))))), .val (.int (bI (¬ ((p0_5 &&& (4 : Int32)) = (0 : Int32))))), .val (.int (bI (¬ ((p0_5 &&& (8 : Int32)) = (0 : Int32))))), .val (.long NC), .second, .val (.long NM), .second, .val (.long ND), .second, .val (.long NW), .second, .val (.ref b46), .val (.ref b58), .val (.int ((((bI (¬ (q0_0 < NC))) &&& (bI (¬ (q0_1 < NM)))) &&& (bI (¬ (q0_2 < ND)))) &&& (bI (¬ (q0_3 < NW)))))] [(.int (bI (¬ (q0_0 < NC) ∧ (¬ (q0_1 < NM) ∧ (¬ (q0_2 < ND) ∧ (¬ (q0_3 < NW)))))))])) _
    refine XS.iload X93.here hx rfl (hb hby at_181) rfl ?_
    show Steps p.tables e below (T93.setTop (mkF m 183 #[.val (.long q0_0), .second, .val (.long q0_1), .second, .val (.long q0_2), .second, .val (.long q0_3), .second, .val (.long q0_4), .second, .val (.int p0_5), .val (.int (bI (¬ ((p0_5 &&& (1 : Int32)) = (0 : Int32))))), .val (.int (bI (¬ ((p0_5 &&& (2 : Int32)) = (0 : Int32))))), .val (.int (bI (¬ ((p0_5 &&& (4 : Int32)) = (0 : Int32))))), .val (.int (bI (¬ ((p0_5 &&& (8 : Int32)) = (0 : Int32))))), .val (.long NC), .second, .val (.long NM), .second, .val (.long ND), .second, .val (.long NW), .second, .val (.ref b46), .val (.ref b58), .val (.int ((((bI (¬ (q0_0 < NC))) &&& (bI (¬ (q0_1 < NM)))) &&& (bI (¬ (q0_2 < ND)))) &&& (bI (¬ (q0_3 < NW)))))] [(.int ((((bI (¬ (q0_0 < NC))) &&& (bI (¬ (q0_1 < NM)))) &&& (bI (¬ (q0_2 < ND)))) &&& (bI (¬ (q0_3 < NW))))), (.int (bI (¬ (q0_0 < NC) ∧ (¬ (q0_1 < NM) ∧ (¬ (q0_2 < ND) ∧ (¬ (q0_3 < NW)))))))])) _
    refine XS.icmpNo X93.here hx rfl (hb hby at_183) rfl (teq hd96).2 ?_
    show Steps p.tables e below (T93.setTop (mkF m 186 #[.val (.long q0_0), .second, .val (.long q0_1), .second, .val (.long q0_2), .second, .val (.long q0_3), .second, .val (.long q0_4), .second, .val (.int p0_5), .val (.int (bI (¬ ((p0_5 &&& (1 : Int32)) = (0 : Int32))))), .val (.int (bI (¬ ((p0_5 &&& (2 : Int32)) = (0 : Int32))))), .val (.int (bI (¬ ((p0_5 &&& (4 : Int32)) = (0 : Int32))))), .val (.int (bI (¬ ((p0_5 &&& (8 : Int32)) = (0 : Int32))))), .val (.long NC), .second, .val (.long NM), .second, .val (.long ND), .second, .val (.long NW), .second, .val (.ref b46), .val (.ref b58), .val (.int ((((bI (¬ (q0_0 < NC))) &&& (bI (¬ (q0_1 < NM)))) &&& (bI (¬ (q0_2 < ND)))) &&& (bI (¬ (q0_3 < NW)))))] [])) _
    refine XS.iconst X93.here hx rfl (hb hby at_186) ?_
    show Steps p.tables e below (T93.setTop (mkF m 187 #[.val (.long q0_0), .second, .val (.long q0_1), .second, .val (.long q0_2), .second, .val (.long q0_3), .second, .val (.long q0_4), .second, .val (.int p0_5), .val (.int (bI (¬ ((p0_5 &&& (1 : Int32)) = (0 : Int32))))), .val (.int (bI (¬ ((p0_5 &&& (2 : Int32)) = (0 : Int32))))), .val (.int (bI (¬ ((p0_5 &&& (4 : Int32)) = (0 : Int32))))), .val (.int (bI (¬ ((p0_5 &&& (8 : Int32)) = (0 : Int32))))), .val (.long NC), .second, .val (.long NM), .second, .val (.long ND), .second, .val (.long NW), .second, .val (.ref b46), .val (.ref b58), .val (.int ((((bI (¬ (q0_0 < NC))) &&& (bI (¬ (q0_1 < NM)))) &&& (bI (¬ (q0_2 < ND)))) &&& (bI (¬ (q0_3 < NW)))))] [(.int (1 : Int32))])) _
    refine XS.goto X93.here hx rfl (pc0 := 187) (pc' := 191) rfl (hb hby at_187) (by decide) (by decide) ?_
    show Steps p.tables e below (T93.setTop (mkF m 191 #[.val (.long q0_0), .second, .val (.long q0_1), .second, .val (.long q0_2), .second, .val (.long q0_3), .second, .val (.long q0_4), .second, .val (.int p0_5), .val (.int (bI (¬ ((p0_5 &&& (1 : Int32)) = (0 : Int32))))), .val (.int (bI (¬ ((p0_5 &&& (2 : Int32)) = (0 : Int32))))), .val (.int (bI (¬ ((p0_5 &&& (4 : Int32)) = (0 : Int32))))), .val (.int (bI (¬ ((p0_5 &&& (8 : Int32)) = (0 : Int32))))), .val (.long NC), .second, .val (.long NM), .second, .val (.long ND), .second, .val (.long NW), .second, .val (.ref b46), .val (.ref b58), .val (.int ((((bI (¬ (q0_0 < NC))) &&& (bI (¬ (q0_1 < NM)))) &&& (bI (¬ (q0_2 < ND)))) &&& (bI (¬ (q0_3 < NW)))))] [(.int (1 : Int32))])) _
    exact retN X93 hx (t := .boolean) Bd.returns (by simp) (hb hby at_191) hr
  · show Q0 Z q0_0 q0_1 q0_2 q0_3 q0_4 p0_5 h0 n0 _ T93.heap _
    rw [e93]
    exact ⟨rfl, N94⟩
set_option maxRecDepth 65536 in
set_option maxHeartbeats 40000000 in
theorem comes_1 {Post : Tables → Env → Array Value → State → Outcome → State → Prop} (hpost : ∀ tb e args s v u, (limb_1_1.after args s (.returned v) u = true ∧ limb_1_2.after args s (.returned v) u = true ∧ True) → FrameEnd s (.returned v) u (Jvm.fieldLocs frame_1_writes args s ++ Jvm.arrayLocs frame_1_arrays args s ++ Jvm.staticLocs frame_1_statics s) 16 128 → Post tb e args s (.returned v) u) :
    ArmFor flags0 classFile x code maxLocals ret World_1 tables_1 room_1 Calls_1 rest_1 Pre_1 Post := by
  intro l hfl _ _ p e ha hc hk s m args below hf hA hF happ hP
  obtain ⟨hcalls, hrest, hpre⟩ := hP
  obtain ⟨-, -, -, hnamed, -, -, -, hat⟩ := (Spec.applies_iff hf).mp happ
  obtain ⟨hg, hn⟩ := and_e (Cond.before_iff.mp (show (Jvm.Cond.and given_1 narrow_1).before args s = true from hpre))
  obtain ⟨g1, g2⟩ := and_e hg
  obtain ⟨g3, g4⟩ := and_e g2
  obtain ⟨g5, g6⟩ := and_e g4
  obtain ⟨g7, g8⟩ := and_e g6
  obtain ⟨g9, g10⟩ := and_e g8
  obtain ⟨g11, g12⟩ := and_e g10
  obtain ⟨w0, w1, w2, w3, w4, w5, rfl⟩ : ∃ w0 w1 w2 w3 w4 w5 : Value, args = #[w0, w1, w2, w3, w4, w5] := by
    have hs : args.size = 6 := by simpa [Cond.value, given_1] using g1
    obtain ⟨L⟩ := args
    match L, hs with
    | [w0, w1, w2, w3, w4, w5], _ => exact ⟨w0, w1, w2, w3, w4, w5, rfl⟩
  have hw := fun d (hd : d ∈ tables_1) => atoms_spec (ws := Jvm.Cond.code x code maxLocals ret :: tables_1) hat d (List.mem_cons_of_mem _ hd)
  have hfit : Fit s := fun {y c} hc i hi => by
    obtain ⟨ha, rfl⟩ := Array.getElem?_eq_some_iff.mp hc
    have q := List.all_eq_true.mp ((Array.all_eq_true_iff_forall_mem.mp hF) _ (Array.getElem_mem ha)) i (List.mem_range.mpr hi)
    simpa [Array.getElem?_eq_getElem hi] using q
  obtain ⟨i0, ei0⟩ := isL_v g3
  obtain rfl : w0 = (.long i0) := Option.some.inj ei0
  obtain ⟨i1, ei1⟩ := isL_v g5
  obtain rfl : w1 = (.long i1) := Option.some.inj ei1
  obtain ⟨i2, ei2⟩ := isL_v g7
  obtain rfl : w2 = (.long i2) := Option.some.inj ei2
  obtain ⟨i3, ei3⟩ := isL_v g9
  obtain rfl : w3 = (.long i3) := Option.some.inj ei3
  obtain ⟨i4, ei4⟩ := isL_v g11
  obtain rfl : w4 = (.long i4) := Option.some.inj ei4
  obtain ⟨i5, ei5⟩ := is_v g12
  obtain rfl : w5 = (.int i5) := Option.some.inj ei5
  obtain ⟨n, o, h1, h2, h3, _, L, rfl, ⟨rfl, N⟩, hq⟩ := rm0 l s _ hw tables_1 i0 i1 i2 i3 i4 i5 s.heap s.heap.size (Nat.le_refl _)  p e ha hc hk s m _ below hf ((Spec.applies_iff_loose hf).mp happ).1 ⟨rfl, State.Warmed39.refl s, rfl⟩ trivial
  refine ⟨n, _, h1, h2, h3, hpost _ _ _ _ _ _ ⟨Cond.after_iff.mpr rfl, Cond.after_iff.mpr (eq_i res_at (Term.int_eval (1)) rfl), trivial⟩ ⟨hq.1, hq.2.1, (hq.2.2.sift fun y hy => Or.inr (N y hy)).mono (by decide) (by decide)⟩⟩
theorem main_1_1 : Claimed_1_1 := comes_1 fun _ _ _ _ _ _ h hF => ⟨h.1, hF⟩
theorem main_1_2 : Claimed_1_2 := comes_1 fun _ _ _ _ _ _ h hF => ⟨h.2.1, hF⟩
end Jvm.Pilot.@@N@@
namespace Jvm.Pilot.@@N@@
open Jvm Jvm.ClassFile Sem Op Lib Jvm.Free Jvm.Stand Jvm.Pilot.@@N@@.Jvm.D
/-! MADE BY PROGRAM (witnessworld.py) out of the Statement's table words and the real class files: 11 classes; the members and pool entries that the words name. The judged class is class 1, her method 1. -/
namespace start1
open Jvm.ClassFile
def u (s : String) : CpInfo := .utf8 (stringToUtf16 s)
/-- a pool by its gaps: so many unusable entries, then the entry; so many at the end -/
def gap : Nat → List CpInfo → List CpInfo
  | 0, r => r
  | n + 1, r => .unusable :: gap n r
def poolList (es : List (Nat × CpInfo)) (last : Nat) : List CpInfo := es.foldr (fun e r => gap e.1 (e.2 :: r)) (gap last [])
def pool (es : List (Nat × CpInfo)) (last : Nat) : Array CpInfo := ⟨poolList es last⟩
def fileOf (pool : Array CpInfo) (this : Nat) (attrs : Array Attribute := #[]) (ms : Array MethodInfo := #[]) (fl : Nat := 33) (sup : Nat := 0) (ifs : Array Nat := #[]) (fds : Array FieldInfo := #[]) : ClassFile where
  minorVersion := 0
  majorVersion := 65
  constantPool := pool
  accessFlags := fl
  thisClass := this
  superClass := sup
  interfaces := ifs
  fields := fds
  methods := ms
  attributes := attrs
def plain (name : String) (sup : Option ClassId) : Class where
  name := name
  kind := .ordinary
  loader := none
  accessFlags := 33
  super := sup
  interfaces := #[]
  cf := none
  fields := #[]
  methods := #[]
  instanceTypes := #[]
  staticTypes := #[]
  resolved := #[]
  callSites := []
  init := .initialized
  statics := none
  mirror := none

def pool0 : Array CpInfo := pool [(5, u "<init>"), (0, u "()V"), (1, .class_ 10), (1, u "java/lang/Object")] 113

def k0c0 : Code := { maxStack := 0, maxLocals := 1, code := object_method_1_code, exceptionTable := #[], attributes := #[] }
def k0m0 : Method := { name := "<init>", desc := "()V", sig := { parameters := [], returnType := none }, accessFlags := 1, code := some k0c0 }
/-- java/lang/Object -/
def k0 : Class := { plain "java/lang/Object" none with
  accessFlags := 33
  interfaces := #[]
  cf := some (fileOf pool0 8 #[] #[{ accessFlags := 1, nameIndex := 5, descriptorIndex := 6, attributes := #[] }] 33 0 #[] #[])
  fields := #[]
  methods := #[k0m0]
  instanceTypes := #[]
  staticTypes := #[]
  resolved := Array.replicate 124 none
  statics := none }

def pool1 : Array CpInfo := pool [(2, .class_ 4), (1, u "java/lang/Object"), (0, u "<init>"), (0, u "()V"), (0, .class_ 8), (0, u "com/example/nearlane/nearlane/engine/Room"), (0, .methodref 7 10), (0, .nameAndType 5 11), (0, u "(JJJJ)V"), (0, .methodref 13 14), (0, .class_ 15), (0, .nameAndType 16 17), (0, u "com/example/nearlane/nearlane/engine/RoomHoldsPinLaw"), (0, u "atLeast"), (0, u "(JJ)Z"), (0, .methodref 7 19), (0, .nameAndType 20 21), (0, u "holds"), (0, u "(Lcom/example/nearlane/nearlane/engine/Room;)Z"), (0, .methodref 23 24), (0, .class_ 25), (0, .nameAndType 26 27), (0, u "java/lang/Math"), (0, u "max"), (0, u "(JJ)J"), (2, u "law"), (0, u "(JJJJJI)Z")] 3

def k1m0 : Method := { name := "<init>", desc := "()V", sig := { parameters := [], returnType := none }, accessFlags := 1, code := none }
def k1c1 : Code := { maxStack := 10, maxLocals := 26, code := code, exceptionTable := #[], attributes := #[] }
def k1m1 : Method := { name := "law", desc := "(JJJJJI)Z", sig := { parameters := [.long, .long, .long, .long, .long, .int], returnType := some .boolean }, accessFlags := 9, code := some k1c1 }
def k1c2 : Code := { maxStack := 4, maxLocals := 4, code := method_3_code, exceptionTable := #[], attributes := #[] }
def k1m2 : Method := { name := "atLeast", desc := "(JJ)Z", sig := { parameters := [.long, .long], returnType := some .boolean }, accessFlags := 10, code := some k1c2 }
/-- com/example/nearlane/nearlane/engine/RoomHoldsPinLaw -/
def k1 : Class := { plain "com/example/nearlane/nearlane/engine/RoomHoldsPinLaw" (some 0) with
  accessFlags := 49
  interfaces := #[]
  cf := some (fileOf pool1 13 #[] #[{ accessFlags := 1, nameIndex := 5, descriptorIndex := 6, attributes := #[] }, { accessFlags := 9, nameIndex := 30, descriptorIndex := 31, attributes := #[] }, { accessFlags := 10, nameIndex := 16, descriptorIndex := 17, attributes := #[] }] 49 2 #[] #[])
  fields := #[]
  methods := #[k1m0, k1m1, k1m2]
  instanceTypes := #[]
  staticTypes := #[]
  resolved := Array.replicate 35 none
  statics := none }

def pool2 : Array CpInfo := pool [(1, .methodref 2 3), (0, .class_ 4), (0, .nameAndType 5 6), (0, u "java/lang/Object"), (0, u "<init>"), (0, u "()V"), (0, .class_ 8), (0, u "java/lang/Record")] 13

def k2c0 : Code := { maxStack := 1, maxLocals := 1, code := jdk_30_method_1_code, exceptionTable := #[], attributes := #[] }
def k2m0 : Method := { name := "<init>", desc := "()V", sig := { parameters := [], returnType := none }, accessFlags := 4, code := some k2c0 }
/-- java/lang/Record -/
def k2 : Class := { plain "java/lang/Record" (some 0) with
  accessFlags := 1057
  interfaces := #[]
  cf := some (fileOf pool2 7 #[] #[{ accessFlags := 4, nameIndex := 5, descriptorIndex := 6, attributes := #[] }] 1057 2 #[] #[])
  fields := #[]
  methods := #[k2m0]
  instanceTypes := #[]
  staticTypes := #[]
  resolved := Array.replicate 22 none
  statics := none }

def pool3 : Array CpInfo := pool [(1, .methodref 2 3), (0, .class_ 4), (0, .nameAndType 5 6), (0, u "java/lang/Record"), (0, u "<init>"), (0, u "()V"), (0, .fieldref 8 9), (0, .class_ 10), (0, .nameAndType 11 12), (0, u "com/example/nearlane/nearlane/engine/Room"), (0, u "cpuMilli"), (0, u "J"), (0, .fieldref 8 14), (0, .nameAndType 15 12), (0, u "memoryMib"), (0, .fieldref 8 17), (0, .nameAndType 18 12), (0, u "deviceMilli"), (0, .fieldref 8 20), (0, .nameAndType 21 12), (0, u "wholeDevices"), (18, u "(JJJJ)V"), (44, u "holds"), (0, u "(Lcom/example/nearlane/nearlane/engine/Room;)Z")] 35

def k3c0 : Code := { maxStack := 3, maxLocals := 9, code := prog_61_method_1_code, exceptionTable := #[], attributes := #[] }
def k3m0 : Method := { name := "<init>", desc := "(JJJJ)V", sig := { parameters := [.long, .long, .long, .long], returnType := none }, accessFlags := 0, code := some k3c0 }
def k3c1 : Code := { maxStack := 4, maxLocals := 2, code := prog_61_method_4_code, exceptionTable := #[], attributes := #[] }
def k3m1 : Method := { name := "holds", desc := "(Lcom/example/nearlane/nearlane/engine/Room;)Z", sig := { parameters := [(.object "com/example/nearlane/nearlane/engine/Room")], returnType := some .boolean }, accessFlags := 0, code := some k3c1 }
/-- com/example/nearlane/nearlane/engine/Room -/
def k3 : Class := { plain "com/example/nearlane/nearlane/engine/Room" (some 2) with
  accessFlags := 48
  interfaces := #[]
  cf := some (fileOf pool3 8 #[] #[{ accessFlags := 0, nameIndex := 5, descriptorIndex := 40, attributes := #[] }, { accessFlags := 0, nameIndex := 85, descriptorIndex := 86, attributes := #[] }] 48 2 #[] #[{ accessFlags := 18, nameIndex := 11, descriptorIndex := 12, attributes := #[] }, { accessFlags := 18, nameIndex := 15, descriptorIndex := 12, attributes := #[] }, { accessFlags := 18, nameIndex := 18, descriptorIndex := 12, attributes := #[] }, { accessFlags := 18, nameIndex := 21, descriptorIndex := 12, attributes := #[] }])
  fields := #[{ name := "cpuMilli", type := .long, accessFlags := 18, slot := 0, constantValue := 0 }, { name := "memoryMib", type := .long, accessFlags := 18, slot := 1, constantValue := 0 }, { name := "deviceMilli", type := .long, accessFlags := 18, slot := 2, constantValue := 0 }, { name := "wholeDevices", type := .long, accessFlags := 18, slot := 3, constantValue := 0 }]
  methods := #[k3m0, k3m1]
  instanceTypes := #[.long, .long, .long, .long]
  staticTypes := #[]
  resolved := Array.replicate 122 none
  statics := none }

def pool4 : Array CpInfo := pool [(1, .class_ 2), (0, u "java/lang/Math"), (1, .class_ 6), (1, u "java/lang/Object"), (0, u "<init>"), (0, u "()V"), (89, .class_ 100), (1, u "java/lang/Math$RandomNumberGeneratorHolder"), (20, u "(JJ)J"), (50, u "negativeZeroFloatBits"), (0, u "J"), (2, u "negativeZeroDoubleBits"), (21, u "max"), (46, u "$assertionsDisabled"), (0, u "Z"), (91, u "twoToTheDoubleScaleDown"), (0, u "D"), (4, u "twoToTheDoubleScaleUp"), (9, u "E"), (3, u "PI"), (2, u "TAU"), (2, u "DEGREES_TO_RADIANS"), (0, u "RADIANS_TO_DEGREES")] 94

def k4m0 : Method := { name := "<init>", desc := "()V", sig := { parameters := [], returnType := none }, accessFlags := 2, code := none }
def k4c1 : Code := { maxStack := 4, maxLocals := 4, code := jdk_29_method_66_code, exceptionTable := #[], attributes := #[] }
def k4m1 : Method := { name := "max", desc := "(JJ)J", sig := { parameters := [.long, .long], returnType := some .long }, accessFlags := 9, code := some k4c1 }
/-- java/lang/Math -/
def k4 : Class := { plain "java/lang/Math" (some 0) with
  accessFlags := 49
  interfaces := #[]
  cf := some (fileOf pool4 1 #[.nestMembers #[98]] #[{ accessFlags := 2, nameIndex := 7, descriptorIndex := 8, attributes := #[] }, { accessFlags := 9, nameIndex := 198, descriptorIndex := 121, attributes := #[] }] 49 4 #[] #[{ accessFlags := 25, nameIndex := 354, descriptorIndex := 339, attributes := #[] }, { accessFlags := 25, nameIndex := 358, descriptorIndex := 339, attributes := #[] }, { accessFlags := 25, nameIndex := 361, descriptorIndex := 339, attributes := #[] }, { accessFlags := 26, nameIndex := 364, descriptorIndex := 339, attributes := #[] }, { accessFlags := 26, nameIndex := 365, descriptorIndex := 339, attributes := #[] }, { accessFlags := 26, nameIndex := 172, descriptorIndex := 173, attributes := #[] }, { accessFlags := 26, nameIndex := 176, descriptorIndex := 173, attributes := #[] }, { accessFlags := 8, nameIndex := 344, descriptorIndex := 339, attributes := #[] }, { accessFlags := 8, nameIndex := 338, descriptorIndex := 339, attributes := #[] }, { accessFlags := 4120, nameIndex := 245, descriptorIndex := 246, attributes := #[] }])
  fields := #[{ name := "E", type := .double, accessFlags := 25, slot := 0, constantValue := 0 }, { name := "PI", type := .double, accessFlags := 25, slot := 1, constantValue := 0 }, { name := "TAU", type := .double, accessFlags := 25, slot := 2, constantValue := 0 }, { name := "DEGREES_TO_RADIANS", type := .double, accessFlags := 26, slot := 3, constantValue := 0 }, { name := "RADIANS_TO_DEGREES", type := .double, accessFlags := 26, slot := 4, constantValue := 0 }, { name := "negativeZeroFloatBits", type := .long, accessFlags := 26, slot := 5, constantValue := 0 }, { name := "negativeZeroDoubleBits", type := .long, accessFlags := 26, slot := 6, constantValue := 0 }, { name := "twoToTheDoubleScaleUp", type := .double, accessFlags := 8, slot := 7, constantValue := 0 }, { name := "twoToTheDoubleScaleDown", type := .double, accessFlags := 8, slot := 8, constantValue := 0 }, { name := "$assertionsDisabled", type := .boolean, accessFlags := 4120, slot := 9, constantValue := 0 }]
  methods := #[k4m0, k4m1]
  instanceTypes := #[]
  staticTypes := #[.double, .double, .double, .double, .double, .long, .long, .double, .double, .boolean]
  resolved := Array.replicate 460 none
  statics := none }

def pool5 : Array CpInfo := pool [(1, u "java/lang/Cloneable"), (0, .class_ 1), (0, u "java/lang/Object"), (0, .class_ 3)] 3

/-- java/lang/Cloneable -/
def k5 : Class := { plain "java/lang/Cloneable" (some 0) with
  accessFlags := 1537
  interfaces := #[]
  cf := some (fileOf pool5 2 #[] #[] 1537 4 #[] #[])
  fields := #[]
  methods := #[]
  instanceTypes := #[]
  staticTypes := #[]
  resolved := Array.replicate 8 none
  statics := none }

def pool6 : Array CpInfo := pool [(1, u "java/io/Serializable"), (0, .class_ 1), (0, u "java/lang/Object"), (0, .class_ 3)] 3

/-- java/io/Serializable -/
def k6 : Class := { plain "java/io/Serializable" (some 0) with
  accessFlags := 1537
  interfaces := #[]
  cf := some (fileOf pool6 2 #[] #[] 1537 4 #[] #[])
  fields := #[]
  methods := #[]
  instanceTypes := #[]
  staticTypes := #[]
  resolved := Array.replicate 8 none
  statics := none }

/-- the primitive byte -/
def k7 : Class := { plain "byte" none with kind := .primitive 'B', accessFlags := 0x411 }
/-- [B -/
def k8 : Class := { plain "[B" (some 0) with kind := .array 7 .byte, interfaces := #[5, 6], accessFlags := 1041 }

/-- the primitive int -/
def k9 : Class := { plain "int" none with kind := .primitive 'I', accessFlags := 0x411 }
/-- [I -/
def k10 : Class := { plain "[I" (some 0) with kind := .array 9 .int, interfaces := #[5, 6], accessFlags := 1041 }

def heap : Heap := #[]
def classes : Array Class := #[k0, k1, k2, k3, k4, k5, k6, k7, k8, k9, k10]
def interned : List (Array UInt16 × Addr) := []
def slotsUsed : Nat := 0
def theMethod : MethodId := ⟨1, 1⟩
def args0 : Array Value := #[.long 5, .long 3, .long 5, .long 3, .long 5, .int 3]
def aboutOver (below : List Frame) : State where
  vm := { classes := classes, interned := interned.toArray }
  heap := heap
  slotsUsed := slotsUsed
  threads := #[{ frames := .invoking theMethod args0 :: below }]
def below0 : List Frame := [.native { method := ⟨0, 0⟩, args := #[] }]
def about1 : State := aboutOver below0
def p0 : Program := .bare "" "" ""
def e0 : Env := launch0.env 0 0 0
theorem w_frames : about1.frames = Frame.invoking theMethod args0 :: below0 := rfl
set_option maxRecDepth 65536 in
theorem w_args : argsFit about1.vm theMethod args0 = true := by decide +kernel
set_option maxRecDepth 65536 in
theorem w_heap : heapFits about1 = true := by decide +kernel
set_option maxRecDepth 65536 in
theorem w_runnable : about1.curStatus? = some .runnable := by decide +kernel
set_option maxRecDepth 65536 in
theorem w_alone : about1.alone = true := by decide +kernel
set_option maxRecDepth 65536 in
theorem w_named : about1.methodNamed? x = some theMethod := by decide +kernel
set_option maxRecDepth 65536 in
theorem w_hears : about1.hears theMethod below0 = true := by decide +kernel
set_option maxRecDepth 65536 in
theorem w_ripe : about1.ripe theMethod args0 below0 = true := by decide +kernel
theorem w_running : about1.status = .running := rfl
set_option maxRecDepth 65536 in
theorem w_room : about1.hasRoom e0.platform room_1 = true :=
  launch0.hasRoom_least _ room_1 (by decide +kernel) (by decide +kernel) (by decide +kernel) (by decide +kernel) (by decide +kernel) (by decide +kernel)
theorem allAtoms_all (ts : List Jvm.Cond) (a : Array Jvm.Value) (st : Jvm.State) : (allAtoms ts).before a st = ts.all (fun c => c.before a st) := by
  induction ts with
  | nil => rfl
  | cons c t ih =>
    show (Jvm.Cond.and c (allAtoms t)).before a st = _
    rw [Jvm.Cond.before_and, ih, List.all_cons]
def words1 : List Jvm.Cond := Jvm.Cond.code x code maxLocals ret :: tables_1
/-- a 'code' word, met by the world's own term for the bytes: nothing is compared byte by byte -/
theorem code_word {y : MethodName} {bytes : ByteArray} {mx : Nat} {rt : Option FieldType} {a : Array Value} {s : State} {m : MethodId} {meth : Method} {c : Code} (h1 : s.methodNamed? y = some m) (h2 : s.vm.method? m = some meth) (h3 : meth.code = some c) (h4 : c.code = bytes)
    (h5 : (c.maxLocals == mx && c.exceptionTable.isEmpty && decide (c.maxStack ≤ mostOperands) && decide (meth.sig.returnType = rt) && !meth.locks && decide (parseMethodDescriptor y.desc = some meth.sig)) = true) : (Jvm.Cond.code y bytes mx rt).before a s = true := by
  simp only [Bool.and_eq_true, beq_iff_eq, Bool.not_eq_true', decide_eq_true_eq] at h5
  obtain ⟨⟨⟨⟨⟨g1, g2⟩, g3⟩, g4⟩, g5⟩, g6⟩ := h5
  simp [Cond.before, Cond.holds, Cond.value, h1, h2, h3, h4, g1, g2, g3, g4, g5, g6]
def isCode : Jvm.Cond → Bool
  | .code _ _ _ _ => true
  | _ => false
theorem all_split {L : List Jvm.Cond} {P : Jvm.Cond → Bool} (h1 : L.all (fun c => isCode c || P c) = true) (h2 : ∀ c ∈ L.filter isCode, P c = true) : L.all P = true := by
  refine List.all_eq_true.mpr fun c hc => ?_
  have h := List.all_eq_true.mp h1 c hc
  rcases Bool.eq_false_or_eq_true (isCode c) with hi | hi
  · exact h2 c (List.mem_filter.mpr ⟨hc, hi⟩)
  · simpa [hi] using h
set_option maxRecDepth 65536 in
theorem w_c0 : (Jvm.Cond.code x code maxLocals ret).before args0 about1 = true := code_word (m := ⟨1, 1⟩) (meth := k1m1) (c := k1c1) (by decide +kernel) rfl rfl rfl (by decide +kernel)
set_option maxRecDepth 65536 in
theorem w_c1 : (Jvm.Cond.code ({ cls := "com/example/nearlane/nearlane/engine/Room", name := "<init>", desc := "(JJJJ)V" } : Jvm.MethodName) prog_61_method_1_code (9 : Nat) (Option.none : Option Jvm.ClassFile.FieldType)).before args0 about1 = true := code_word (m := ⟨3, 0⟩) (meth := k3m0) (c := k3c0) (by decide +kernel) rfl rfl rfl (by decide +kernel)
set_option maxRecDepth 65536 in
theorem w_c2 : (Jvm.Cond.code ({ cls := "java/lang/Record", name := "<init>", desc := "()V" } : Jvm.MethodName) jdk_30_method_1_code (1 : Nat) (Option.none : Option Jvm.ClassFile.FieldType)).before args0 about1 = true := code_word (m := ⟨2, 0⟩) (meth := k2m0) (c := k2c0) (by decide +kernel) rfl rfl rfl (by decide +kernel)
set_option maxRecDepth 65536 in
theorem w_c3 : (Jvm.Cond.code ({ cls := "java/lang/Object", name := "<init>", desc := "()V" } : Jvm.MethodName) object_method_1_code (1 : Nat) (Option.none : Option Jvm.ClassFile.FieldType)).before args0 about1 = true := code_word (m := ⟨0, 0⟩) (meth := k0m0) (c := k0c0) (by decide +kernel) rfl rfl rfl (by decide +kernel)
set_option maxRecDepth 65536 in
theorem w_c4 : (Jvm.Cond.code ({ cls := "com/example/nearlane/nearlane/engine/RoomHoldsPinLaw", name := "atLeast", desc := "(JJ)Z" } : Jvm.MethodName) method_3_code (4 : Nat) (Option.some Jvm.ClassFile.FieldType.boolean)).before args0 about1 = true := code_word (m := ⟨1, 2⟩) (meth := k1m2) (c := k1c2) (by decide +kernel) rfl rfl rfl (by decide +kernel)
set_option maxRecDepth 65536 in
theorem w_c5 : (Jvm.Cond.code ({ cls := "java/lang/Math", name := "max", desc := "(JJ)J" } : Jvm.MethodName) jdk_29_method_66_code (4 : Nat) (Option.some Jvm.ClassFile.FieldType.long)).before args0 about1 = true := code_word (m := ⟨4, 1⟩) (meth := k4m1) (c := k4c1) (by decide +kernel) rfl rfl rfl (by decide +kernel)
set_option maxRecDepth 65536 in
theorem w_c6 : (Jvm.Cond.code ({ cls := "com/example/nearlane/nearlane/engine/Room", name := "holds", desc := "(Lcom/example/nearlane/nearlane/engine/Room;)Z" } : Jvm.MethodName) prog_61_method_4_code (2 : Nat) (Option.some Jvm.ClassFile.FieldType.boolean)).before args0 about1 = true := code_word (m := ⟨3, 1⟩) (meth := k3m1) (c := k3c1) (by decide +kernel) rfl rfl rfl (by decide +kernel)
def codes1 : List Jvm.Cond := [Jvm.Cond.code x code maxLocals ret, Jvm.Cond.code ({ cls := "com/example/nearlane/nearlane/engine/Room", name := "<init>", desc := "(JJJJ)V" } : Jvm.MethodName) prog_61_method_1_code (9 : Nat) (Option.none : Option Jvm.ClassFile.FieldType), Jvm.Cond.code ({ cls := "java/lang/Record", name := "<init>", desc := "()V" } : Jvm.MethodName) jdk_30_method_1_code (1 : Nat) (Option.none : Option Jvm.ClassFile.FieldType), Jvm.Cond.code ({ cls := "java/lang/Object", name := "<init>", desc := "()V" } : Jvm.MethodName) object_method_1_code (1 : Nat) (Option.none : Option Jvm.ClassFile.FieldType), Jvm.Cond.code ({ cls := "com/example/nearlane/nearlane/engine/RoomHoldsPinLaw", name := "atLeast", desc := "(JJ)Z" } : Jvm.MethodName) method_3_code (4 : Nat) (Option.some Jvm.ClassFile.FieldType.boolean), Jvm.Cond.code ({ cls := "java/lang/Math", name := "max", desc := "(JJ)J" } : Jvm.MethodName) jdk_29_method_66_code (4 : Nat) (Option.some Jvm.ClassFile.FieldType.long), Jvm.Cond.code ({ cls := "com/example/nearlane/nearlane/engine/Room", name := "holds", desc := "(Lcom/example/nearlane/nearlane/engine/Room;)Z" } : Jvm.MethodName) prog_61_method_4_code (2 : Nat) (Option.some Jvm.ClassFile.FieldType.boolean)]
set_option maxRecDepth 65536 in
theorem codes_eq : words1.filter isCode = codes1 := rfl
theorem w_codes : ∀ c ∈ words1.filter isCode, c.before args0 about1 = true := by
  rw [codes_eq]
  intro c hc
  simp only [codes1, List.mem_cons, List.not_mem_nil, or_false] at hc
  rcases hc with rfl | rfl | rfl | rfl | rfl | rfl | rfl
  · exact w_c0
  · exact w_c1
  · exact w_c2
  · exact w_c3
  · exact w_c4
  · exact w_c5
  · exact w_c6
set_option maxRecDepth 65536 in
theorem w_t1 : (words1.take 24).all (fun c => isCode c || c.before args0 about1) = true := by decide +kernel
set_option maxRecDepth 65536 in
theorem w_t2 : (words1.drop 24).all (fun c => isCode c || c.before args0 about1) = true := by decide +kernel
theorem w_tables : (allAtoms (Jvm.Cond.code x code maxLocals ret :: tables_1)).before args0 about1 = true := by
  rw [allAtoms_all]
  show words1.all (fun c => c.before args0 about1) = true
  refine all_split ?_ w_codes
  rw [← List.take_append_drop 24 words1, List.all_append, w_t1, w_t2]
  rfl
set_option maxRecDepth 65536 in
theorem w_case : (Jvm.Cond.and given_1 narrow_1).before args0 about1 = true := by decide +kernel
theorem w_applies : (headSpec (Jvm.Cond.code x code maxLocals ret :: tables_1) room_1).applies x e0.platform about1 = true :=
  (Spec.applies_iff w_frames).mpr ⟨w_running, w_runnable, w_alone, w_named, w_hears, w_ripe, w_room, w_tables⟩
theorem atStart : AtStart classFile x code maxLocals ret World_1 tables_1 room_1 Calls_1 rest_1 Pre_1 launch0 p0 e0 about1 theMethod args0 below0 :=
  ⟨lists_1, trivial, launch0.admits_env _ _ _, launch0.least_env, fairChoices_fair.cas, fairChoices_fair.clock, w_frames, w_args, w_heap, w_applies, trivial, trivial, w_case⟩
end start1
theorem witness_1 : WitnessClaimed_1 := ⟨start1.p0, start1.e0, start1.about1, start1.theMethod, start1.args0, start1.below0, start1.atStart⟩
end Jvm.Pilot.@@N@@
