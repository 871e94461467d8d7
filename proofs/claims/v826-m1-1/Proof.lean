import JvmDerived
import JvmDerived.Pilot.@@N@@Statement
import JvmDerived.Pilot.@@N@@Code
set_option linter.unusedVariables false
set_option linter.unusedSimpArgs false
namespace Jvm.RoadKit
open Sem ClassFile Op Lib Jvm.Stand Jvm.Free Jvm.LawKit
section New
variable {p : Program} {l : Launch} {e : Env} {R : Room} {s : State} {m : MethodId} {args : Array Value} {below : List Frame} {meth : Method} {c : Code} {T : State} {locs : List Loc} {cells slots : Nat}
theorem retI (X : Stand p l e R s m args below meth c T locs cells slots) (hx : p.tables.exec = Jvm.exec) {pc : Nat} {Ls : Array Slot} {z : Int32} {rest : List Value} (hret : meth.sig.returnType = some .int) (hd : decode c.code pc = .ok (.ireturn, 1)) {fs : List Frame}
    (hl : ∀ (f : JFrame) (acts : List Action), f.method = m → f.locked = none → f.entered = [] → (doReturn e (T.setTop f) acts (some (.int z))).1 = T.setFrames fs) : Steps p.tables e below (T.setTop (mkF m pc Ls (.int z :: rest))) (T.setFrames fs) := by
  have hm' : T.vm.method? m = some meth := X.method'
  have hn : narrow .int (.int z) = .int z := rfl
  show Steps p.tables e below (T.setTop { method := m, pc := pc, locals := Ls, stack := _ :: rest, locked := none }) _
  jvm_step X.here [X.here.top, hx, hd, hm', hret, hn]
  first | (intro acts; rw [hl _ acts rfl rfl rfl]) | rw [hl _ _ rfl rfl rfl]
  exact Steps.refl _
end New
end Jvm.RoadKit
namespace Jvm.Pilot.@@N@@
open Jvm Jvm.ClassFile Sem Op Lib Jvm.Free Jvm.Stand Jvm.LawKit Jvm.RoadKit Bundle Jvm.Pilot.@@N@@.Jvm.D
/-- a boolean of the law's, as the int that the machine holds -/
def bI (P : Prop) [Decidable P] : Int32 := if P then 1 else 0
theorem bI_t {P : Prop} [Decidable P] (h : P) : bI P = (1 : Int32) := if_pos h
theorem bI_f {P : Prop} [Decidable P] (h : ¬ P) : bI P = (0 : Int32) := if_neg h
theorem bI_n {P : Prop} [Decidable P] (h : P) : ¬ (bI P = (0 : Int32)) := by rw [bI_t h]; decide
theorem bI_iff {P Q : Prop} [Decidable P] [Decidable Q] (h : P ↔ Q) : bI P = bI Q := by
  by_cases p : P
  · rw [bI_t p, bI_t (h.mp p)]
  · rw [bI_f p, bI_f fun q => p (h.mpr q)]
theorem bI_nar {P : Prop} [Decidable P] : nar .boolean (bI P) = bI P := by
  by_cases p : P
  · rw [bI_t p]; rfl
  · rw [bI_f p]; rfl
theorem own_feq {a : Term} {k : Int32} {args : Array Value} {s : State} (h : (Jvm.Cond.eq a (.int k)).value args s none s [] = some true) : a.eval args s none [] s = some (.int k) := by
  obtain ⟨x, y, hx, hy, -, kin⟩ := cmp_v (Or.inl h)
  have e : y = .int k := (Option.some.inj (hy.symm.trans (Term.int_eval k)))
  subst e
  obtain ⟨z, rfl⟩ := kin
  have q : (Jvm.Cond.eq a (.int k)).value args s none s [] = some (decide (z = k)) := by simp [Cond.value, hx, hy]
  rw [q] at h
  have e : z = k := of_decide_eq_true (Option.some.inj h)
  rw [hx, e]
theorem own_len {args : Array Value} {s : State} {t : Term} {x : Addr} {cl : Cell} {ty : FieldType} (A : Arr s s.heap x cl ty) (ht : t.eval args s none [] s = some (.ref x)) (h : (Jvm.Cond.eq (.length t) (.int (256 : Int32))).value args s none s [] = some true) : cl.slots.size = 256 := by
  have q := own_feq h
  have ha := Arr.fin (Vm.Alike.refl _) A
  by_cases hl : cl.slots.size < 2 ^ 31
  · have e := (len_f ht ha hl).symm.trans q
    have e2 : cl.slots.size.toInt32 = (256 : Int32) := Value.int.inj (Option.some.inj e)
    have e3 := congrArg Int32.toInt e2
    have e4 : (cl.slots.size.toInt32).toInt = cl.slots.size := Int32.toInt_ofNat_small hl
    rw [e4] at e3
    have e5 : (256 : Int32).toInt = 256 := by decide
    omega
  · simp [Term.eval, ht, ha, hl] at q
theorem own_el {args : Array Value} {s : State} {C n d K : String} {x : Addr} {cl : Cell} {ty : FieldType} {R : Jvm.Cond} (A : Arr s s.heap x cl ty) (ht : (Term.static C n d).eval args s none [] s = some (.ref x)) (h : (Jvm.Cond.all (Term.static C n d) (Jvm.Cond.and (Jvm.Cond.exactly (Term.elem (Term.static C n d) (Term.index (0 : Nat))) K) R)).value args s none s [] = some true) (j : Int32) (hj : ¬ (j < 0 ∨ cl.slots.size ≤ j.toNatClampNeg)) : ∃ r, cl.slots[j.toNatClampNeg]? = some (.ref r) ∧ Exa s s.heap r K := by
  have ha := Arr.fin (Vm.Alike.refl _) A
  have h0 : ¬ j < 0 := fun q => hj (Or.inl q)
  have h1 : j.toNatClampNeg < cl.slots.size := Nat.lt_of_not_le fun q => hj (Or.inr q)
  have w := (and_e (Cond.all_elim ht ha h _ h1)).1
  have hb := (back32 h0).1
  have w2 : (Jvm.Cond.exactly (Term.elem (Term.static C n d) (Term.int j)) K).value args s none s [] = some true := by
    rw [← w]
    simp [Cond.value, Term.eval, hb]
  obtain ⟨r, er⟩ := exa_v w2
  refine ⟨r, ?_, Exa.start er w2⟩
  exact (elem_in er ht (Term.int_eval j) A.1).2
theorem own_no {Z : State} {a0 : Array Value} {K : String} {n k : Nat} (w1 : (Jvm.Cond.superclass "java/lang/Long" "java/lang/Number").before a0 Z = true) (w2 : (Jvm.Cond.superclass "java/lang/Number" "java/lang/Object").before a0 Z = true) (w3 : (Jvm.Cond.noSuperclass "java/lang/Object").before a0 Z = true) (wi : (Jvm.Cond.instantiable K n).before a0 Z = true) (wl : (Jvm.Cond.instantiable "java/lang/Long" k).before a0 Z = true) (h1 : "java/lang/Long" ≠ K) (h2 : "java/lang/Number" ≠ K) (h3 : "java/lang/Object" ≠ K) : ∃ c t, Z.vm.findClass "java/lang/Long" = some c ∧ Z.vm.findClass K = some t ∧ Z.vm.assignable c t = false := by
  obtain ⟨t, kt, g1, g2, g3, g4, -, -⟩ := Cond.instantiable_spec wi
  have r : NS Z "java/lang/Object" K := by
    obtain ⟨c, k, q1, q2, q3, -, -⟩ := Cond.noSuperclass_spec w3
    have ne := ids_ne q1 g1 h3
    refine ⟨c, t, q1, g1, fun fuel => ?_⟩
    cases fuel with
    | zero => rfl
    | succ f => simp [Vm.isSubclassAux, ne, q2, q3]
  obtain ⟨c, t', l0, g0, n3⟩ := NS.step w1 (NS.step w2 r h2) h1
  cases g1.symm.trans g0
  obtain ⟨c', kc, l1, l2, l3, l4, -⟩ := Cond.instantiable_spec wl
  cases l0.symm.trans l1
  have ne := ids_ne l0 g1 h1
  have gi : kt.isInterface = false := (Bool.or_eq_false_iff.mp g4).1
  refine ⟨c, t, l0, g1, ?_⟩
  show Z.vm.assignableAux (255 + 1) c t = false
  simp [Vm.assignableAux, ne, l2, g2, l3, g3, gi, Vm.isSubclass, n3]
theorem own_ix (a : Int64) (h1 : ¬ (a < (-128 : Int64))) (h2 : ¬ ((127 : Int64) < a)) : ¬ ((a.toInt32 + (128 : Int32)) < 0 ∨ 256 ≤ (a.toInt32 + (128 : Int32)).toNatClampNeg) := by
  have e1 : (-128 : Int64).toInt = -128 := by decide
  have e2 : (127 : Int64).toInt = 127 := by decide
  have e3 : (128 : Int32).toInt = 128 := by decide
  have e0 : (0 : Int32).toInt = 0 := by decide
  rw [Int64.lt_iff_toInt_lt, e1] at h1
  rw [Int64.lt_iff_toInt_lt, e2] at h2
  have c1 := c_l2i a
  have r1 := rng32 a.toInt32
  have c2 := c_iadd a.toInt32 128
  have r2 := rng32 (a.toInt32 + 128)
  rw [e3] at c2
  have hn : ¬ (a.toInt32 + (128 : Int32)) < 0 := by rw [Int32.lt_iff_toInt_lt, e0]; omega
  intro q
  rcases q with q | q
  · exact hn q
  · have := nat_of hn
    omega
theorem d2_0 : decode jdk_30_method_1_code 0 = .ok (.aload_n 0, 1) := by decide +kernel
theorem d2_1 : decode jdk_30_method_1_code 1 = .ok (.invokespecial 1, 3) := by decide +kernel
theorem d2_4 : decode jdk_30_method_1_code 4 = .ok (.return_, 1) := by decide +kernel
theorem pn_2 : plainName "java/lang/Record" = true := by first | (simp [plainName, overriddenIn]; done) | decide +kernel
theorem ef_2 (m : MethodId) (x0 : Addr) : entryFrame m #[(.ref x0)] 1 = mkF m 0 #[.val (.ref x0)] [] := by first | (simp [entryFrame, mkF, argsToLocals, Value.category]; done) | rfl
def Q2 (Z : State) (a2_0 : Addr) (h0 : Heap) (n0 : Nat) (v : Option Value) (h : Heap) (L : List Loc) : Prop := v = none ∧ Fr n0 L ∧ h = h0
set_option maxRecDepth 65536 in
set_option maxHeartbeats 40000000 in
theorem rm2 (l : Launch) (Z : State) (a0 : Array Value) (hw : ∀ d ∈ tables_1, d.before a0 Z = true) (ws : List Jvm.Cond) (a2_0 : Addr) (h0 : Heap) (n0 : Nat) (Z0 : n0 ≤ h0.size) :
    MetFree l (⟨"java/lang/Record", "<init>", "()V"⟩ : MethodName) (head1 (Jvm.Cond.code (⟨"java/lang/Record", "<init>", "()V"⟩ : MethodName) jdk_30_method_1_code 1 none :: ws) ({ frames := 1, cells := 0, slots := 0, locals := 12 } : Room)) (fun a U => a = #[(.ref a2_0)] ∧ Z.Warmed39 U.vm ∧ U.heap = h0) (fun _ _ _ _ _ => True) (fun _ U o U' => ∃ v L, o = .returned v ∧ Q2 Z a2_0 h0 n0 v U'.heap L ∧ FrameEnd U o U' L ({ frames := 1, cells := 0, slots := 0, locals := 12 } : Room).cells ({ frames := 1, cells := 0, slots := 0, locals := 12 } : Room).slots) := by
  refine MetFree.of_bodySF (plainFor_of_name pn_2) hisR ?_
  intro p e s m args below meth c s₁ Bd hml0 hP hK
  obtain ⟨rfl, hZ, hh⟩ := hP
  have hVV : ∀ (i : Nat) (d : Jvm.Cond), tables_1[i]? = some d → d.before a0 Z = true := fun i d h => hw d (List.mem_of_getElem? h)
  have hx := Bd.exec
  have hby := Bd.bytes
  have hml : c.maxLocals = 1 := hml0
  have hown : s.vm.findClass "java/lang/Record" = some m.cls := findClass_of_methodNamed Bd.named
  have hnm := (name_of_methodNamed Bd.named Bd.method).1
  have X0 : Stand p l e ({ frames := 1, cells := 0, slots := 0, locals := 12 } : Room) s m #[(.ref a2_0)] below meth c s₁ [] 0 0 := Stand.of_body Bd
  have e0 : s₁.heap = h0 := by rw [← hh, Bd.state]; rfl
  have N0 := Fr.nil n0
  have pre0 : ∀ t, Steps p.tables e below (s₁.setTop (mkF m 0 #[.val (.ref a2_0)] [])) t → Steps p.tables e below (s₁.setTop (entryFrame m #[(.ref a2_0)] 1)) t := fun t k => castTop (ef_2 m a2_0) k
  obtain ⟨T1, X1, e1, st1⟩ := initO X0 hx hZ hown (hVV 11 _ rfl) (hVV 12 _ rfl) (hVV 13 _ rfl) e0 (g := (mkF m 1 #[.val (.ref a2_0)] [(.ref a2_0)])) rfl (by rw [hml]; rfl) rfl (hb hby d2_1) (by decide) (W := 0) (by show 2 * 0 + _ ≤ _; exact Nat.le_of_eq rfl) (by decide)
  have pre2 : ∀ t, Steps p.tables e below (T1.setTop (mkF m 4 #[.val (.ref a2_0)] [])) t → Steps p.tables e below (s₁.setTop (entryFrame m #[(.ref a2_0)] 1)) t := fun t k => pre0 t (by
    show Steps p.tables e below (s₁.setTop (mkF m 0 #[.val (.ref a2_0)] [])) _
    refine XS.aloadN X0.here hx rfl (hb hby d2_0) rfl rfl ?_
    show Steps p.tables e below (s₁.setTop (mkF m 1 #[.val (.ref a2_0)] [(.ref a2_0)])) _
    refine st1 _ ?_
    exact k)
  obtain ⟨fs, hr, hrun, hended, hW, hsame⟩ := X1.leave (v := none) (fun _ => rfl)
  refine ⟨_, _, pre2 _ ?_, hrun, hended, _, _, rfl, ?_, ⟨_, rfl⟩, hW, hsame.mono (by decide) (by decide)⟩
  · show Steps p.tables e below (T1.setTop (mkF m 4 #[.val (.ref a2_0)] [])) _
    exact X1.returnOut hx Bd.returns (hb hby d2_4) hr
  · show Q2 Z a2_0 h0 n0 _ T1.heap _
    rw [e1]
    exact ⟨rfl, N0, rfl⟩
theorem pd_0 : parseMethodDescriptor "()V" = some ⟨[], none⟩ := by decide +kernel
theorem d1_0 : decode prog_174_method_1_code 0 = .ok (.aload_n 0, 1) := by decide +kernel
theorem d1_1 : decode prog_174_method_1_code 1 = .ok (.invokespecial 1, 3) := by decide +kernel
theorem d1_4 : decode prog_174_method_1_code 4 = .ok (.aload_n 0, 1) := by decide +kernel
theorem d1_5 : decode prog_174_method_1_code 5 = .ok (.lload_n 1, 1) := by decide +kernel
theorem d1_6 : decode prog_174_method_1_code 6 = .ok (.putfield 7, 3) := by decide +kernel
theorem d1_9 : decode prog_174_method_1_code 9 = .ok (.aload_n 0, 1) := by decide +kernel
theorem d1_10 : decode prog_174_method_1_code 10 = .ok (.lload_n 3, 1) := by decide +kernel
theorem d1_11 : decode prog_174_method_1_code 11 = .ok (.putfield 13, 3) := by decide +kernel
theorem d1_14 : decode prog_174_method_1_code 14 = .ok (.aload_n 0, 1) := by decide +kernel
theorem d1_15 : decode prog_174_method_1_code 15 = .ok (.lload 5, 2) := by decide +kernel
theorem d1_17 : decode prog_174_method_1_code 17 = .ok (.putfield 16, 3) := by decide +kernel
theorem d1_20 : decode prog_174_method_1_code 20 = .ok (.return_, 1) := by decide +kernel
theorem pn_1 : plainName "com/example/nearlane/nearlane/model/Resources" = true := by first | (simp [plainName, overriddenIn]; done) | decide +kernel
theorem ef_1 (m : MethodId) (x0 : Addr) (x1 : Int64) (x2 : Int64) (x3 : Int64) : entryFrame m #[(.ref x0), (.long x1), (.long x2), (.long x3)] 7 = mkF m 0 #[.val (.ref x0), .val (.long x1), .second, .val (.long x2), .second, .val (.long x3), .second] [] := by first | (simp [entryFrame, mkF, argsToLocals, Value.category]; done) | rfl
def Q1 (Z : State) (a1_0 : Addr) (q1_1 : Int64) (q1_2 : Int64) (q1_3 : Int64) (w1_cpuMilli_a1_0 : Int64) (w1_memoryMib_a1_0 : Int64) (w1_gpuMilli_a1_0 : Int64) (h0 : Heap) (n0 : Nat) (v : Option Value) (h : Heap) (L : List Loc) : Prop := v = none ∧ Fr n0 L ∧ Keep h0 h [a1_0] ∧ Exa Z h a1_0 "com/example/nearlane/nearlane/model/Resources" ∧ Fld Z h a1_0 "com/example/nearlane/nearlane/model/Resources" "cpuMilli" "J" (.long q1_1) ∧ Fld Z h a1_0 "com/example/nearlane/nearlane/model/Resources" "memoryMib" "J" (.long q1_2) ∧ Fld Z h a1_0 "com/example/nearlane/nearlane/model/Resources" "gpuMilli" "J" (.long q1_3)
set_option maxRecDepth 65536 in
set_option maxHeartbeats 40000000 in
theorem rm1 (l : Launch) (Z : State) (a0 : Array Value) (hw : ∀ d ∈ tables_1, d.before a0 Z = true) (ws : List Jvm.Cond) (a1_0 : Addr) (q1_1 : Int64) (q1_2 : Int64) (q1_3 : Int64) (w1_cpuMilli_a1_0 : Int64) (w1_memoryMib_a1_0 : Int64) (w1_gpuMilli_a1_0 : Int64) (h0 : Heap) (n0 : Nat) (Z0 : n0 ≤ h0.size) (E_a1_0 : Exa Z h0 a1_0 "com/example/nearlane/nearlane/model/Resources") (F_cpuMilli_a1_0 : Fld Z h0 a1_0 "com/example/nearlane/nearlane/model/Resources" "cpuMilli" "J" (.long w1_cpuMilli_a1_0)) (F_memoryMib_a1_0 : Fld Z h0 a1_0 "com/example/nearlane/nearlane/model/Resources" "memoryMib" "J" (.long w1_memoryMib_a1_0)) (F_gpuMilli_a1_0 : Fld Z h0 a1_0 "com/example/nearlane/nearlane/model/Resources" "gpuMilli" "J" (.long w1_gpuMilli_a1_0)) (g_a1_0 : n0 ≤ a1_0) :
    MetFree l (⟨"com/example/nearlane/nearlane/model/Resources", "<init>", "(JJJ)V"⟩ : MethodName) (head1 (Jvm.Cond.code (⟨"com/example/nearlane/nearlane/model/Resources", "<init>", "(JJJ)V"⟩ : MethodName) prog_174_method_1_code 7 none :: ws) ({ frames := 2, cells := 0, slots := 0, locals := 24 } : Room)) (fun a U => a = #[(.ref a1_0), (.long q1_1), (.long q1_2), (.long q1_3)] ∧ Z.Warmed39 U.vm ∧ U.heap = h0) (fun _ _ _ _ _ => True) (fun _ U o U' => ∃ v L, o = .returned v ∧ Q1 Z a1_0 q1_1 q1_2 q1_3 w1_cpuMilli_a1_0 w1_memoryMib_a1_0 w1_gpuMilli_a1_0 h0 n0 v U'.heap L ∧ FrameEnd U o U' L ({ frames := 2, cells := 0, slots := 0, locals := 24 } : Room).cells ({ frames := 2, cells := 0, slots := 0, locals := 24 } : Room).slots) := by
  refine MetFree.of_bodySF (plainFor_of_name pn_1) hisR ?_
  intro p e s m args below meth c s₁ Bd hml0 hP hK
  obtain ⟨rfl, hZ, hh⟩ := hP
  have hVV : ∀ (i : Nat) (d : Jvm.Cond), tables_1[i]? = some d → d.before a0 Z = true := fun i d h => hw d (List.mem_of_getElem? h)
  have hx := Bd.exec
  have hby := Bd.bytes
  have hml : c.maxLocals = 7 := hml0
  have hown : s.vm.findClass "com/example/nearlane/nearlane/model/Resources" = some m.cls := findClass_of_methodNamed Bd.named
  have hnm := (name_of_methodNamed Bd.named Bd.method).1
  have X0 : Stand p l e ({ frames := 2, cells := 0, slots := 0, locals := 24 } : Room) s m #[(.ref a1_0), (.long q1_1), (.long q1_2), (.long q1_3)] below meth c s₁ [] 0 0 := Stand.of_body Bd
  have e0 : s₁.heap = h0 := by rw [← hh, Bd.state]; rfl
  have N0 := Fr.nil n0
  have pre0 : ∀ t, Steps p.tables e below (s₁.setTop (mkF m 0 #[.val (.ref a1_0), .val (.long q1_1), .second, .val (.long q1_2), .second, .val (.long q1_3), .second] [])) t → Steps p.tables e below (s₁.setTop (entryFrame m #[(.ref a1_0), (.long q1_1), (.long q1_2), (.long q1_3)] 7)) t := fun t k => castTop (ef_1 m a1_0 q1_1 q1_2 q1_3) k
  obtain ⟨_, _, ⟨T1, L1, k1, n1⟩, -, X1, ⟨Lc1, hQ1, l1, y1, z1⟩, st1⟩ := X0.specialBack hx (y := (⟨"java/lang/Record", "<init>", "()V"⟩ : MethodName)) rfl hown (mvT hZ (hVV 6 _ rfl)) (mvT hZ (hVV 7 _ rfl)) (mvT hZ (hVV 10 _ rfl)) (by decide) (backOf (W := 0) (rm2 l Z a0 hw [] a1_0 h0 n0 Z0 ) hZ (hVV 10 _ rfl) (hVV 9 _ rfl) (by decide) (by decide)) (g := (mkF m 1 #[.val (.ref a1_0), .val (.long q1_1), .second, .val (.long q1_2), .second, .val (.long q1_3), .second] [(.ref a1_0)])) rfl (by rw [hml]; rfl) (Steps.refl _) (a := a1_0) (argsL := []) (rest := []) (lenOf pd_0 rfl) rfl (by show 2 * 0 + _ ≤ _; exact Nat.le_of_eq rfl) (hb hby d1_1) (fun _ _ => ⟨rfl, e0, (by decide : 0 + 0 ≤ _), (by decide : 0 + 0 ≤ _)⟩)
  dsimp only [Pt.U, Pt.locs, Pt.cells, Pt.slots] at X1 l1 y1 z1 st1 hQ1
  subst l1 y1 z1
  obtain ⟨rfl, N1q, e1⟩ := hQ1
  have N2 := Fr.app N0 N1q
  have pre3 : ∀ t, Steps p.tables e below (T1.setTop (mkF m 4 #[.val (.ref a1_0), .val (.long q1_1), .second, .val (.long q1_2), .second, .val (.long q1_3), .second] [])) t → Steps p.tables e below (s₁.setTop (entryFrame m #[(.ref a1_0), (.long q1_1), (.long q1_2), (.long q1_3)] 7)) t := fun t k => pre0 t (by
    show Steps p.tables e below (s₁.setTop (mkF m 0 #[.val (.ref a1_0), .val (.long q1_1), .second, .val (.long q1_2), .second, .val (.long q1_3), .second] [])) _
    refine XS.aloadN X0.here hx rfl (hb hby d1_0) rfl rfl ?_
    show Steps p.tables e below (s₁.setTop (mkF m 1 #[.val (.ref a1_0), .val (.long q1_1), .second, .val (.long q1_2), .second, .val (.long q1_3), .second] [(.ref a1_0)])) _
    refine st1.trans ?_
    exact k)
  obtain ⟨T4, h4, X4, e4, W4, st4⟩ := putF X1 hx hZ hown (host := "") (Or.inl (hVV 14 _ rfl)) Via.refl e1 F_cpuMilli_a1_0 E_a1_0 (Or.inr ⟨(hVV 15 _ rfl), rfl, hnm⟩) (hVV 1 _ rfl) (ty := .long) (by decide) rfl rfl (g := (mkF m 6 #[.val (.ref a1_0), .val (.long q1_1), .second, .val (.long q1_2), .second, .val (.long q1_3), .second] [(.long q1_1), (.ref a1_0)])) rfl rfl (hb hby d1_6)
  have pre5 : ∀ t, Steps p.tables e below (T4.setTop (mkF m 9 #[.val (.ref a1_0), .val (.long q1_1), .second, .val (.long q1_2), .second, .val (.long q1_3), .second] [])) t → Steps p.tables e below (s₁.setTop (entryFrame m #[(.ref a1_0), (.long q1_1), (.long q1_2), (.long q1_3)] 7)) t := fun t k => pre3 t (by
    show Steps p.tables e below (T1.setTop (mkF m 4 #[.val (.ref a1_0), .val (.long q1_1), .second, .val (.long q1_2), .second, .val (.long q1_3), .second] [])) _
    refine XS.aloadN X1.here hx rfl (hb hby d1_4) rfl rfl ?_
    show Steps p.tables e below (T1.setTop (mkF m 5 #[.val (.ref a1_0), .val (.long q1_1), .second, .val (.long q1_2), .second, .val (.long q1_3), .second] [(.ref a1_0)])) _
    refine XS.lloadN X1.here hx rfl (hb hby d1_5) rfl ?_
    show Steps p.tables e below (T1.setTop (mkF m 6 #[.val (.ref a1_0), .val (.long q1_1), .second, .val (.long q1_2), .second, .val (.long q1_3), .second] [(.long q1_1), (.ref a1_0)])) _
    refine st4 _ ?_
    exact k)
  have f6 := E_a1_0.wr W4
  have f7 := F_memoryMib_a1_0.other W4 (Or.inr (slot_ne (Or.inr (hVV 17 _ rfl)) (Or.inr (hVV 15 _ rfl)) (by decide) (t := .long) (t' := .long) (by decide) (by decide)))
  have f8 := F_gpuMilli_a1_0.other W4 (Or.inr (slot_ne (Or.inr (hVV 19 _ rfl)) (Or.inr (hVV 15 _ rfl)) (by decide) (t := .long) (t' := .long) (by decide) (by decide)))
  have z9 := Nat.le_trans Z0 (Keep.of_wr W4).1
  have k10 := (Keep.refl h0 [a1_0]).wr W4 (Or.inl (List.mem_of_getElem? (i := 0) rfl))
  have f11 := F_cpuMilli_a1_0.same W4
  have N12 := Fr.snoc X4 N2 g_a1_0
  obtain ⟨T13, h13, X13, e13, W13, st13⟩ := putF X4 hx hZ hown (host := "") (Or.inl (hVV 16 _ rfl)) Via.refl e4 f7 f6 (Or.inr ⟨(hVV 17 _ rfl), rfl, hnm⟩) (hVV 1 _ rfl) (ty := .long) (by decide) rfl rfl (g := (mkF m 11 #[.val (.ref a1_0), .val (.long q1_1), .second, .val (.long q1_2), .second, .val (.long q1_3), .second] [(.long q1_2), (.ref a1_0)])) rfl rfl (hb hby d1_11)
  have pre14 : ∀ t, Steps p.tables e below (T13.setTop (mkF m 14 #[.val (.ref a1_0), .val (.long q1_1), .second, .val (.long q1_2), .second, .val (.long q1_3), .second] [])) t → Steps p.tables e below (s₁.setTop (entryFrame m #[(.ref a1_0), (.long q1_1), (.long q1_2), (.long q1_3)] 7)) t := fun t k => pre5 t (by
    show Steps p.tables e below (T4.setTop (mkF m 9 #[.val (.ref a1_0), .val (.long q1_1), .second, .val (.long q1_2), .second, .val (.long q1_3), .second] [])) _
    refine XS.aloadN X4.here hx rfl (hb hby d1_9) rfl rfl ?_
    show Steps p.tables e below (T4.setTop (mkF m 10 #[.val (.ref a1_0), .val (.long q1_1), .second, .val (.long q1_2), .second, .val (.long q1_3), .second] [(.ref a1_0)])) _
    refine XS.lloadN X4.here hx rfl (hb hby d1_10) rfl ?_
    show Steps p.tables e below (T4.setTop (mkF m 11 #[.val (.ref a1_0), .val (.long q1_1), .second, .val (.long q1_2), .second, .val (.long q1_3), .second] [(.long q1_2), (.ref a1_0)])) _
    refine st13 _ ?_
    exact k)
  have f15 := f6.wr W13
  have f16 := f8.other W13 (Or.inr (slot_ne (Or.inr (hVV 19 _ rfl)) (Or.inr (hVV 17 _ rfl)) (by decide) (t := .long) (t' := .long) (by decide) (by decide)))
  have f17 := f11.other W13 (Or.inr (slot_ne (Or.inr (hVV 15 _ rfl)) (Or.inr (hVV 17 _ rfl)) (by decide) (t := .long) (t' := .long) (by decide) (by decide)))
  have z18 := Nat.le_trans z9 (Keep.of_wr W13).1
  have k19 := k10.wr W13 (Or.inl (List.mem_of_getElem? (i := 0) rfl))
  have f20 := f7.same W13
  have N21 := Fr.snoc X13 N12 g_a1_0
  obtain ⟨T22, h22, X22, e22, W22, st22⟩ := putF X13 hx hZ hown (host := "") (Or.inl (hVV 18 _ rfl)) Via.refl e13 f16 f15 (Or.inr ⟨(hVV 19 _ rfl), rfl, hnm⟩) (hVV 1 _ rfl) (ty := .long) (by decide) rfl rfl (g := (mkF m 17 #[.val (.ref a1_0), .val (.long q1_1), .second, .val (.long q1_2), .second, .val (.long q1_3), .second] [(.long q1_3), (.ref a1_0)])) rfl rfl (hb hby d1_17)
  have pre23 : ∀ t, Steps p.tables e below (T22.setTop (mkF m 20 #[.val (.ref a1_0), .val (.long q1_1), .second, .val (.long q1_2), .second, .val (.long q1_3), .second] [])) t → Steps p.tables e below (s₁.setTop (entryFrame m #[(.ref a1_0), (.long q1_1), (.long q1_2), (.long q1_3)] 7)) t := fun t k => pre14 t (by
    show Steps p.tables e below (T13.setTop (mkF m 14 #[.val (.ref a1_0), .val (.long q1_1), .second, .val (.long q1_2), .second, .val (.long q1_3), .second] [])) _
    refine XS.aloadN X13.here hx rfl (hb hby d1_14) rfl rfl ?_
    show Steps p.tables e below (T13.setTop (mkF m 15 #[.val (.ref a1_0), .val (.long q1_1), .second, .val (.long q1_2), .second, .val (.long q1_3), .second] [(.ref a1_0)])) _
    refine XS.lload X13.here hx rfl (hb hby d1_15) rfl ?_
    show Steps p.tables e below (T13.setTop (mkF m 17 #[.val (.ref a1_0), .val (.long q1_1), .second, .val (.long q1_2), .second, .val (.long q1_3), .second] [(.long q1_3), (.ref a1_0)])) _
    refine st22 _ ?_
    exact k)
  have f24 := f15.wr W22
  have f25 := f17.other W22 (Or.inr (slot_ne (Or.inr (hVV 15 _ rfl)) (Or.inr (hVV 19 _ rfl)) (by decide) (t := .long) (t' := .long) (by decide) (by decide)))
  have f26 := f20.other W22 (Or.inr (slot_ne (Or.inr (hVV 17 _ rfl)) (Or.inr (hVV 19 _ rfl)) (by decide) (t := .long) (t' := .long) (by decide) (by decide)))
  have z27 := Nat.le_trans z18 (Keep.of_wr W22).1
  have k28 := k19.wr W22 (Or.inl (List.mem_of_getElem? (i := 0) rfl))
  have f29 := f16.same W22
  have N30 := Fr.snoc X22 N21 g_a1_0
  obtain ⟨fs, hr, hrun, hended, hW, hsame⟩ := X22.leave (v := none) (fun _ => rfl)
  refine ⟨_, _, pre23 _ ?_, hrun, hended, _, _, rfl, ?_, ⟨_, rfl⟩, hW, hsame.mono (by decide) (by decide)⟩
  · show Steps p.tables e below (T22.setTop (mkF m 20 #[.val (.ref a1_0), .val (.long q1_1), .second, .val (.long q1_2), .second, .val (.long q1_3), .second] [])) _
    exact X22.returnOut hx Bd.returns (hb hby d1_20) hr
  · show Q1 Z a1_0 q1_1 q1_2 q1_3 w1_cpuMilli_a1_0 w1_memoryMib_a1_0 w1_gpuMilli_a1_0 h0 n0 _ T22.heap _
    rw [e22]
    exact ⟨rfl, N30, k28, f24, f25, f26, f29⟩
theorem d4_0 : decode prog_174_method_2_code 0 = .ok (.aload_n 0, 1) := by decide +kernel
theorem d4_1 : decode prog_174_method_2_code 1 = .ok (.aload_n 1, 1) := by decide +kernel
theorem d4_2 : decode prog_174_method_2_code 2 = .ok (.if_acmp .eq 51, 3) := by decide +kernel
theorem d4_5 : decode prog_174_method_2_code 5 = .ok (.aload_n 1, 1) := by decide +kernel
theorem d4_6 : decode prog_174_method_2_code 6 = .ok (.instanceof 8, 3) := by decide +kernel
theorem d4_9 : decode prog_174_method_2_code 9 = .ok (.ifCond .eq 48, 3) := by decide +kernel
theorem d4_12 : decode prog_174_method_2_code 12 = .ok (.aload_n 1, 1) := by decide +kernel
theorem d4_13 : decode prog_174_method_2_code 13 = .ok (.checkcast 8, 3) := by decide +kernel
theorem d4_16 : decode prog_174_method_2_code 16 = .ok (.astore_n 2, 1) := by decide +kernel
theorem d4_17 : decode prog_174_method_2_code 17 = .ok (.aload_n 0, 1) := by decide +kernel
theorem d4_18 : decode prog_174_method_2_code 18 = .ok (.getfield 7, 3) := by decide +kernel
theorem d4_21 : decode prog_174_method_2_code 21 = .ok (.aload_n 2, 1) := by decide +kernel
theorem d4_22 : decode prog_174_method_2_code 22 = .ok (.getfield 7, 3) := by decide +kernel
theorem d4_25 : decode prog_174_method_2_code 25 = .ok (.lcmp, 1) := by decide +kernel
theorem d4_26 : decode prog_174_method_2_code 26 = .ok (.ifCond .ne 31, 3) := by decide +kernel
theorem d4_29 : decode prog_174_method_2_code 29 = .ok (.aload_n 0, 1) := by decide +kernel
theorem d4_30 : decode prog_174_method_2_code 30 = .ok (.getfield 13, 3) := by decide +kernel
theorem d4_33 : decode prog_174_method_2_code 33 = .ok (.aload_n 2, 1) := by decide +kernel
theorem d4_34 : decode prog_174_method_2_code 34 = .ok (.getfield 13, 3) := by decide +kernel
theorem d4_37 : decode prog_174_method_2_code 37 = .ok (.lcmp, 1) := by decide +kernel
theorem d4_38 : decode prog_174_method_2_code 38 = .ok (.ifCond .ne 19, 3) := by decide +kernel
theorem d4_41 : decode prog_174_method_2_code 41 = .ok (.aload_n 0, 1) := by decide +kernel
theorem d4_42 : decode prog_174_method_2_code 42 = .ok (.getfield 16, 3) := by decide +kernel
theorem d4_45 : decode prog_174_method_2_code 45 = .ok (.aload_n 2, 1) := by decide +kernel
theorem d4_46 : decode prog_174_method_2_code 46 = .ok (.getfield 16, 3) := by decide +kernel
theorem d4_49 : decode prog_174_method_2_code 49 = .ok (.lcmp, 1) := by decide +kernel
theorem d4_50 : decode prog_174_method_2_code 50 = .ok (.ifCond .ne 7, 3) := by decide +kernel
theorem d4_53 : decode prog_174_method_2_code 53 = .ok (.iconst 1, 1) := by decide +kernel
theorem d4_54 : decode prog_174_method_2_code 54 = .ok (.goto 4, 3) := by decide +kernel
theorem d4_57 : decode prog_174_method_2_code 57 = .ok (.iconst 0, 1) := by decide +kernel
theorem d4_58 : decode prog_174_method_2_code 58 = .ok (.ireturn, 1) := by decide +kernel
theorem pn_4 : plainName "com/example/nearlane/nearlane/model/Resources" = true := by first | (simp [plainName, overriddenIn]; done) | decide +kernel
theorem ef_4 (m : MethodId) (x0 : Addr) (x1 : Addr) : entryFrame m #[(.ref x0), (.ref x1)] 3 = mkF m 0 #[.val (.ref x0), .val (.ref x1), .unset] [] := by first | (simp [entryFrame, mkF, argsToLocals, Value.category]; done) | rfl
def Q4_o (Z : State) (a4_0 : Addr) (a4_1 : Addr) (w4_cpuMilli_a4_0 : Int64) (w4_cpuMilli_a4_1 : Int64) (w4_memoryMib_a4_0 : Int64) (w4_memoryMib_a4_1 : Int64) (w4_gpuMilli_a4_0 : Int64) (w4_gpuMilli_a4_1 : Int64) (h0 : Heap) (n0 : Nat) (v : Option Value) (h : Heap) (L : List Loc) : Prop := v = some (.int (bI ((w4_cpuMilli_a4_0 = w4_cpuMilli_a4_1) ∧ ((w4_memoryMib_a4_0 = w4_memoryMib_a4_1) ∧ (w4_gpuMilli_a4_0 = w4_gpuMilli_a4_1))))) ∧ Fr n0 L ∧ h = h0
set_option maxRecDepth 65536 in
set_option maxHeartbeats 40000000 in
theorem rm4_o (l : Launch) (Z : State) (a0 : Array Value) (hw : ∀ d ∈ tables_1, d.before a0 Z = true) (ws : List Jvm.Cond) (a4_0 : Addr) (a4_1 : Addr) (w4_cpuMilli_a4_0 : Int64) (w4_cpuMilli_a4_1 : Int64) (w4_memoryMib_a4_0 : Int64) (w4_memoryMib_a4_1 : Int64) (w4_gpuMilli_a4_0 : Int64) (w4_gpuMilli_a4_1 : Int64) (h0 : Heap) (n0 : Nat) (Z0 : n0 ≤ h0.size) (EE_a4_1 : Exa Z h0 a4_1 "com/example/nearlane/nearlane/model/Resources") (ne_a4_0_a4_1 : a4_0 ≠ a4_1) (F_cpuMilli_a4_0 : Fld Z h0 a4_0 "com/example/nearlane/nearlane/model/Resources" "cpuMilli" "J" (.long w4_cpuMilli_a4_0)) (F_cpuMilli_a4_1 : Fld Z h0 a4_1 "com/example/nearlane/nearlane/model/Resources" "cpuMilli" "J" (.long w4_cpuMilli_a4_1)) (F_memoryMib_a4_0 : Fld Z h0 a4_0 "com/example/nearlane/nearlane/model/Resources" "memoryMib" "J" (.long w4_memoryMib_a4_0)) (F_memoryMib_a4_1 : Fld Z h0 a4_1 "com/example/nearlane/nearlane/model/Resources" "memoryMib" "J" (.long w4_memoryMib_a4_1)) (F_gpuMilli_a4_0 : Fld Z h0 a4_0 "com/example/nearlane/nearlane/model/Resources" "gpuMilli" "J" (.long w4_gpuMilli_a4_0)) (F_gpuMilli_a4_1 : Fld Z h0 a4_1 "com/example/nearlane/nearlane/model/Resources" "gpuMilli" "J" (.long w4_gpuMilli_a4_1)) :
    MetFree l (⟨"com/example/nearlane/nearlane/model/Resources", "equals", "(Ljava/lang/Object;)Z"⟩ : MethodName) (head1 (Jvm.Cond.code (⟨"com/example/nearlane/nearlane/model/Resources", "equals", "(Ljava/lang/Object;)Z"⟩ : MethodName) prog_174_method_2_code 3 (some .boolean) :: ws) ({ frames := 0, cells := 0, slots := 0, locals := 0 } : Room)) (fun a U => a = #[(.ref a4_0), (.ref a4_1)] ∧ Z.Warmed39 U.vm ∧ U.heap = h0) (fun _ _ _ _ _ => True) (fun _ U o U' => ∃ v L, o = .returned v ∧ Q4_o Z a4_0 a4_1 w4_cpuMilli_a4_0 w4_cpuMilli_a4_1 w4_memoryMib_a4_0 w4_memoryMib_a4_1 w4_gpuMilli_a4_0 w4_gpuMilli_a4_1 h0 n0 v U'.heap L ∧ FrameEnd U o U' L ({ frames := 0, cells := 0, slots := 0, locals := 0 } : Room).cells ({ frames := 0, cells := 0, slots := 0, locals := 0 } : Room).slots) := by
  refine MetFree.of_bodySF (plainFor_of_name pn_4) hisR ?_
  intro p e s m args below meth c s₁ Bd hml0 hP hK
  obtain ⟨rfl, hZ, hh⟩ := hP
  have hVV : ∀ (i : Nat) (d : Jvm.Cond), tables_1[i]? = some d → d.before a0 Z = true := fun i d h => hw d (List.mem_of_getElem? h)
  have hx := Bd.exec
  have hby := Bd.bytes
  have hml : c.maxLocals = 3 := hml0
  have hown : s.vm.findClass "com/example/nearlane/nearlane/model/Resources" = some m.cls := findClass_of_methodNamed Bd.named
  have hnm := (name_of_methodNamed Bd.named Bd.method).1
  have X0 : Stand p l e ({ frames := 0, cells := 0, slots := 0, locals := 0 } : Room) s m #[(.ref a4_0), (.ref a4_1)] below meth c s₁ [] 0 0 := Stand.of_body Bd
  have e0 : s₁.heap = h0 := by rw [← hh, Bd.state]; rfl
  have N0 := Fr.nil n0
  have pre0 : ∀ t, Steps p.tables e below (s₁.setTop (mkF m 0 #[.val (.ref a4_0), .val (.ref a4_1), .unset] [])) t → Steps p.tables e below (s₁.setTop (entryFrame m #[(.ref a4_0), (.ref a4_1)] 3)) t := fun t k => castTop (ef_4 m a4_0 a4_1) k
  obtain ⟨T1, X1, e1, st1⟩ := instY X0 hx hZ hown (hVV 25 _ rfl) e0 (Ins.self EE_a4_1) (g := (mkF m 6 #[.val (.ref a4_0), .val (.ref a4_1), .unset] [(.ref a4_1)])) rfl rfl (hb hby d4_6)
  have pre2 : ∀ t, Steps p.tables e below (T1.setTop (mkF m 9 #[.val (.ref a4_0), .val (.ref a4_1), .unset] [(.int (1 : Int32))])) t → Steps p.tables e below (s₁.setTop (entryFrame m #[(.ref a4_0), (.ref a4_1)] 3)) t := fun t k => pre0 t (by
    show Steps p.tables e below (s₁.setTop (mkF m 0 #[.val (.ref a4_0), .val (.ref a4_1), .unset] [])) _
    refine XS.aloadN X0.here hx rfl (hb hby d4_0) rfl rfl ?_
    show Steps p.tables e below (s₁.setTop (mkF m 1 #[.val (.ref a4_0), .val (.ref a4_1), .unset] [(.ref a4_0)])) _
    refine XS.aloadN X0.here hx rfl (hb hby d4_1) rfl rfl ?_
    show Steps p.tables e below (s₁.setTop (mkF m 2 #[.val (.ref a4_0), .val (.ref a4_1), .unset] [(.ref a4_1), (.ref a4_0)])) _
    refine Jvm.RoadKit.acmp (g := (mkF m 2 #[.val (.ref a4_0), .val (.ref a4_1), .unset] [(.ref a4_1), (.ref a4_0)])) X0 hx rfl rfl rfl (pc0 := 2) (pc' := 5) (same := false) rfl (hb hby d4_2) rfl (decide_eq_false fun q => ne_a4_0_a4_1 (Value.ref.inj q)) (by decide) (by decide) ?_
    show Steps p.tables e below (s₁.setTop (mkF m 5 #[.val (.ref a4_0), .val (.ref a4_1), .unset] [])) _
    refine XS.aloadN X0.here hx rfl (hb hby d4_5) rfl rfl ?_
    show Steps p.tables e below (s₁.setTop (mkF m 6 #[.val (.ref a4_0), .val (.ref a4_1), .unset] [(.ref a4_1)])) _
    refine st1 _ ?_
    exact k)
  obtain ⟨T3, X3, e3, st3⟩ := castY X1 hx hZ hown (hVV 25 _ rfl) e1 (Ins.self EE_a4_1) (g := (mkF m 13 #[.val (.ref a4_0), .val (.ref a4_1), .unset] [(.ref a4_1)])) rfl rfl (hb hby d4_13)
  have pre4 : ∀ t, Steps p.tables e below (T3.setTop (mkF m 16 #[.val (.ref a4_0), .val (.ref a4_1), .unset] [(.ref a4_1)])) t → Steps p.tables e below (s₁.setTop (entryFrame m #[(.ref a4_0), (.ref a4_1)] 3)) t := fun t k => pre2 t (by
    show Steps p.tables e below (T1.setTop (mkF m 9 #[.val (.ref a4_0), .val (.ref a4_1), .unset] [(.int (1 : Int32))])) _
    refine XS.ifNo X1.here hx rfl (hb hby d4_9) rfl ((if0 _ _).trans (feq (by decide : ¬ ((1 : Int32) = (0 : Int32)))).1) ?_
    show Steps p.tables e below (T1.setTop (mkF m 12 #[.val (.ref a4_0), .val (.ref a4_1), .unset] [])) _
    refine XS.aloadN X1.here hx rfl (hb hby d4_12) rfl rfl ?_
    show Steps p.tables e below (T1.setTop (mkF m 13 #[.val (.ref a4_0), .val (.ref a4_1), .unset] [(.ref a4_1)])) _
    refine st3 _ ?_
    exact k)
  obtain ⟨T5, X5, e5, st5⟩ := getF X3 hx hZ hown (host := "") (Or.inl (hVV 14 _ rfl)) Via.refl e3 F_cpuMilli_a4_0 (g := (mkF m 18 #[.val (.ref a4_0), .val (.ref a4_1), .val (.ref a4_1)] [(.ref a4_0)])) rfl rfl (hb hby d4_18)
  have pre6 : ∀ t, Steps p.tables e below (T5.setTop (mkF m 21 #[.val (.ref a4_0), .val (.ref a4_1), .val (.ref a4_1)] [(.long w4_cpuMilli_a4_0)])) t → Steps p.tables e below (s₁.setTop (entryFrame m #[(.ref a4_0), (.ref a4_1)] 3)) t := fun t k => pre4 t (by
    show Steps p.tables e below (T3.setTop (mkF m 16 #[.val (.ref a4_0), .val (.ref a4_1), .unset] [(.ref a4_1)])) _
    refine XS.astoreN X3.here hx rfl (hb hby d4_16) rfl rfl (l' := #[.val (.ref a4_0), .val (.ref a4_1), .val (.ref a4_1)]) rfl ?_
    show Steps p.tables e below (T3.setTop (mkF m 17 #[.val (.ref a4_0), .val (.ref a4_1), .val (.ref a4_1)] [])) _
    refine XS.aloadN X3.here hx rfl (hb hby d4_17) rfl rfl ?_
    show Steps p.tables e below (T3.setTop (mkF m 18 #[.val (.ref a4_0), .val (.ref a4_1), .val (.ref a4_1)] [(.ref a4_0)])) _
    refine st5 _ ?_
    exact k)
  obtain ⟨T7, X7, e7, st7⟩ := getF X5 hx hZ hown (host := "") (Or.inl (hVV 14 _ rfl)) Via.refl e5 F_cpuMilli_a4_1 (g := (mkF m 22 #[.val (.ref a4_0), .val (.ref a4_1), .val (.ref a4_1)] [(.ref a4_1), (.long w4_cpuMilli_a4_0)])) rfl rfl (hb hby d4_22)
  have pre8 : ∀ t, Steps p.tables e below (T7.setTop (mkF m 25 #[.val (.ref a4_0), .val (.ref a4_1), .val (.ref a4_1)] [(.long w4_cpuMilli_a4_1), (.long w4_cpuMilli_a4_0)])) t → Steps p.tables e below (s₁.setTop (entryFrame m #[(.ref a4_0), (.ref a4_1)] 3)) t := fun t k => pre6 t (by
    show Steps p.tables e below (T5.setTop (mkF m 21 #[.val (.ref a4_0), .val (.ref a4_1), .val (.ref a4_1)] [(.long w4_cpuMilli_a4_0)])) _
    refine XS.aloadN X5.here hx rfl (hb hby d4_21) rfl rfl ?_
    show Steps p.tables e below (T5.setTop (mkF m 22 #[.val (.ref a4_0), .val (.ref a4_1), .val (.ref a4_1)] [(.ref a4_1), (.long w4_cpuMilli_a4_0)])) _
    refine st7 _ ?_
    exact k)
  by_cases hc9 : w4_cpuMilli_a4_0 = w4_cpuMilli_a4_1
  · obtain ⟨T10, X10, e10, st10⟩ := getF X7 hx hZ hown (host := "") (Or.inl (hVV 16 _ rfl)) Via.refl e7 F_memoryMib_a4_0 (g := (mkF m 30 #[.val (.ref a4_0), .val (.ref a4_1), .val (.ref a4_1)] [(.ref a4_0)])) rfl rfl (hb hby d4_30)
    have pre11 : ∀ t, Steps p.tables e below (T10.setTop (mkF m 33 #[.val (.ref a4_0), .val (.ref a4_1), .val (.ref a4_1)] [(.long w4_memoryMib_a4_0)])) t → Steps p.tables e below (s₁.setTop (entryFrame m #[(.ref a4_0), (.ref a4_1)] 3)) t := fun t k => pre8 t (by
      show Steps p.tables e below (T7.setTop (mkF m 25 #[.val (.ref a4_0), .val (.ref a4_1), .val (.ref a4_1)] [(.long w4_cpuMilli_a4_1), (.long w4_cpuMilli_a4_0)])) _
      refine XS.lcmp X7.here hx rfl (hb hby d4_25) rfl ?_
      show Steps p.tables e below (T7.setTop (mkF m 26 #[.val (.ref a4_0), .val (.ref a4_1), .val (.ref a4_1)] [(.int (lcmpW w4_cpuMilli_a4_0 w4_cpuMilli_a4_1))])) _
      refine XS.ifNo X7.here hx rfl (hb hby d4_26) rfl ((if0 _ _).trans (teq ((lw_eq _ _).mpr hc9)).2) ?_
      show Steps p.tables e below (T7.setTop (mkF m 29 #[.val (.ref a4_0), .val (.ref a4_1), .val (.ref a4_1)] [])) _
      refine XS.aloadN X7.here hx rfl (hb hby d4_29) rfl rfl ?_
      show Steps p.tables e below (T7.setTop (mkF m 30 #[.val (.ref a4_0), .val (.ref a4_1), .val (.ref a4_1)] [(.ref a4_0)])) _
      refine st10 _ ?_
      exact k)
    obtain ⟨T12, X12, e12, st12⟩ := getF X10 hx hZ hown (host := "") (Or.inl (hVV 16 _ rfl)) Via.refl e10 F_memoryMib_a4_1 (g := (mkF m 34 #[.val (.ref a4_0), .val (.ref a4_1), .val (.ref a4_1)] [(.ref a4_1), (.long w4_memoryMib_a4_0)])) rfl rfl (hb hby d4_34)
    have pre13 : ∀ t, Steps p.tables e below (T12.setTop (mkF m 37 #[.val (.ref a4_0), .val (.ref a4_1), .val (.ref a4_1)] [(.long w4_memoryMib_a4_1), (.long w4_memoryMib_a4_0)])) t → Steps p.tables e below (s₁.setTop (entryFrame m #[(.ref a4_0), (.ref a4_1)] 3)) t := fun t k => pre11 t (by
      show Steps p.tables e below (T10.setTop (mkF m 33 #[.val (.ref a4_0), .val (.ref a4_1), .val (.ref a4_1)] [(.long w4_memoryMib_a4_0)])) _
      refine XS.aloadN X10.here hx rfl (hb hby d4_33) rfl rfl ?_
      show Steps p.tables e below (T10.setTop (mkF m 34 #[.val (.ref a4_0), .val (.ref a4_1), .val (.ref a4_1)] [(.ref a4_1), (.long w4_memoryMib_a4_0)])) _
      refine st12 _ ?_
      exact k)
    by_cases hc14 : w4_memoryMib_a4_0 = w4_memoryMib_a4_1
    · obtain ⟨T15, X15, e15, st15⟩ := getF X12 hx hZ hown (host := "") (Or.inl (hVV 18 _ rfl)) Via.refl e12 F_gpuMilli_a4_0 (g := (mkF m 42 #[.val (.ref a4_0), .val (.ref a4_1), .val (.ref a4_1)] [(.ref a4_0)])) rfl rfl (hb hby d4_42)
      have pre16 : ∀ t, Steps p.tables e below (T15.setTop (mkF m 45 #[.val (.ref a4_0), .val (.ref a4_1), .val (.ref a4_1)] [(.long w4_gpuMilli_a4_0)])) t → Steps p.tables e below (s₁.setTop (entryFrame m #[(.ref a4_0), (.ref a4_1)] 3)) t := fun t k => pre13 t (by
        show Steps p.tables e below (T12.setTop (mkF m 37 #[.val (.ref a4_0), .val (.ref a4_1), .val (.ref a4_1)] [(.long w4_memoryMib_a4_1), (.long w4_memoryMib_a4_0)])) _
        refine XS.lcmp X12.here hx rfl (hb hby d4_37) rfl ?_
        show Steps p.tables e below (T12.setTop (mkF m 38 #[.val (.ref a4_0), .val (.ref a4_1), .val (.ref a4_1)] [(.int (lcmpW w4_memoryMib_a4_0 w4_memoryMib_a4_1))])) _
        refine XS.ifNo X12.here hx rfl (hb hby d4_38) rfl ((if0 _ _).trans (teq ((lw_eq _ _).mpr hc14)).2) ?_
        show Steps p.tables e below (T12.setTop (mkF m 41 #[.val (.ref a4_0), .val (.ref a4_1), .val (.ref a4_1)] [])) _
        refine XS.aloadN X12.here hx rfl (hb hby d4_41) rfl rfl ?_
        show Steps p.tables e below (T12.setTop (mkF m 42 #[.val (.ref a4_0), .val (.ref a4_1), .val (.ref a4_1)] [(.ref a4_0)])) _
        refine st15 _ ?_
        exact k)
      obtain ⟨T17, X17, e17, st17⟩ := getF X15 hx hZ hown (host := "") (Or.inl (hVV 18 _ rfl)) Via.refl e15 F_gpuMilli_a4_1 (g := (mkF m 46 #[.val (.ref a4_0), .val (.ref a4_1), .val (.ref a4_1)] [(.ref a4_1), (.long w4_gpuMilli_a4_0)])) rfl rfl (hb hby d4_46)
      have pre18 : ∀ t, Steps p.tables e below (T17.setTop (mkF m 49 #[.val (.ref a4_0), .val (.ref a4_1), .val (.ref a4_1)] [(.long w4_gpuMilli_a4_1), (.long w4_gpuMilli_a4_0)])) t → Steps p.tables e below (s₁.setTop (entryFrame m #[(.ref a4_0), (.ref a4_1)] 3)) t := fun t k => pre16 t (by
        show Steps p.tables e below (T15.setTop (mkF m 45 #[.val (.ref a4_0), .val (.ref a4_1), .val (.ref a4_1)] [(.long w4_gpuMilli_a4_0)])) _
        refine XS.aloadN X15.here hx rfl (hb hby d4_45) rfl rfl ?_
        show Steps p.tables e below (T15.setTop (mkF m 46 #[.val (.ref a4_0), .val (.ref a4_1), .val (.ref a4_1)] [(.ref a4_1), (.long w4_gpuMilli_a4_0)])) _
        refine st17 _ ?_
        exact k)
      by_cases hc19 : w4_gpuMilli_a4_0 = w4_gpuMilli_a4_1
      · obtain ⟨fs, hr, hrun, hended, hW, hsame⟩ := X17.leave (v := some (.int (1 : Int32))) (fun h => by rw [Bd.returns] at h; cases h)
        refine ⟨_, _, pre18 _ ?_, hrun, hended, _, _, rfl, ?_, ⟨_, rfl⟩, hW, hsame.mono (by decide) (by decide)⟩
        · show Steps p.tables e below (T17.setTop (mkF m 49 #[.val (.ref a4_0), .val (.ref a4_1), .val (.ref a4_1)] [(.long w4_gpuMilli_a4_1), (.long w4_gpuMilli_a4_0)])) _
          refine XS.lcmp X17.here hx rfl (hb hby d4_49) rfl ?_
          show Steps p.tables e below (T17.setTop (mkF m 50 #[.val (.ref a4_0), .val (.ref a4_1), .val (.ref a4_1)] [(.int (lcmpW w4_gpuMilli_a4_0 w4_gpuMilli_a4_1))])) _
          refine XS.ifNo X17.here hx rfl (hb hby d4_50) rfl ((if0 _ _).trans (teq ((lw_eq _ _).mpr hc19)).2) ?_
          show Steps p.tables e below (T17.setTop (mkF m 53 #[.val (.ref a4_0), .val (.ref a4_1), .val (.ref a4_1)] [])) _
          refine XS.iconst X17.here hx rfl (hb hby d4_53) ?_
          show Steps p.tables e below (T17.setTop (mkF m 54 #[.val (.ref a4_0), .val (.ref a4_1), .val (.ref a4_1)] [(.int (1 : Int32))])) _
          refine XS.goto X17.here hx rfl (pc0 := 54) (pc' := 58) rfl (hb hby d4_54) (by decide) (by decide) ?_
          show Steps p.tables e below (T17.setTop (mkF m 58 #[.val (.ref a4_0), .val (.ref a4_1), .val (.ref a4_1)] [(.int (1 : Int32))])) _
          exact retN X17 hx (t := .boolean) Bd.returns (by simp) (hb hby d4_58) hr
        · show Q4_o Z a4_0 a4_1 w4_cpuMilli_a4_0 w4_cpuMilli_a4_1 w4_memoryMib_a4_0 w4_memoryMib_a4_1 w4_gpuMilli_a4_0 w4_gpuMilli_a4_1 h0 n0 _ T17.heap _
          rw [e17]
          exact ⟨(congrArg (fun z => some (Value.int z)) ((bI_t ⟨hc9, ⟨hc14, hc19⟩⟩) : (bI ((w4_cpuMilli_a4_0 = w4_cpuMilli_a4_1) ∧ ((w4_memoryMib_a4_0 = w4_memoryMib_a4_1) ∧ (w4_gpuMilli_a4_0 = w4_gpuMilli_a4_1)))) = (1 : Int32)).symm), N0, rfl⟩
      · obtain ⟨fs, hr, hrun, hended, hW, hsame⟩ := X17.leave (v := some (.int (0 : Int32))) (fun h => by rw [Bd.returns] at h; cases h)
        refine ⟨_, _, pre18 _ ?_, hrun, hended, _, _, rfl, ?_, ⟨_, rfl⟩, hW, hsame.mono (by decide) (by decide)⟩
        · show Steps p.tables e below (T17.setTop (mkF m 49 #[.val (.ref a4_0), .val (.ref a4_1), .val (.ref a4_1)] [(.long w4_gpuMilli_a4_1), (.long w4_gpuMilli_a4_0)])) _
          refine XS.lcmp X17.here hx rfl (hb hby d4_49) rfl ?_
          show Steps p.tables e below (T17.setTop (mkF m 50 #[.val (.ref a4_0), .val (.ref a4_1), .val (.ref a4_1)] [(.int (lcmpW w4_gpuMilli_a4_0 w4_gpuMilli_a4_1))])) _
          refine XS.ifYes X17.here hx rfl (pc0 := 50) (pc' := 57) rfl (hb hby d4_50) rfl ((if0 _ _).trans (feq (fun q => hc19 ((lw_eq _ _).mp q))).2) (by decide) (by decide) ?_
          show Steps p.tables e below (T17.setTop (mkF m 57 #[.val (.ref a4_0), .val (.ref a4_1), .val (.ref a4_1)] [])) _
          refine XS.iconst X17.here hx rfl (hb hby d4_57) ?_
          show Steps p.tables e below (T17.setTop (mkF m 58 #[.val (.ref a4_0), .val (.ref a4_1), .val (.ref a4_1)] [(.int (0 : Int32))])) _
          exact retN X17 hx (t := .boolean) Bd.returns (by simp) (hb hby d4_58) hr
        · show Q4_o Z a4_0 a4_1 w4_cpuMilli_a4_0 w4_cpuMilli_a4_1 w4_memoryMib_a4_0 w4_memoryMib_a4_1 w4_gpuMilli_a4_0 w4_gpuMilli_a4_1 h0 n0 _ T17.heap _
          rw [e17]
          exact ⟨(congrArg (fun z => some (Value.int z)) ((bI_f (fun z => (fun z => hc19 z.2) z.2)) : (bI ((w4_cpuMilli_a4_0 = w4_cpuMilli_a4_1) ∧ ((w4_memoryMib_a4_0 = w4_memoryMib_a4_1) ∧ (w4_gpuMilli_a4_0 = w4_gpuMilli_a4_1)))) = (0 : Int32)).symm), N0, rfl⟩
    · obtain ⟨fs, hr, hrun, hended, hW, hsame⟩ := X12.leave (v := some (.int (0 : Int32))) (fun h => by rw [Bd.returns] at h; cases h)
      refine ⟨_, _, pre13 _ ?_, hrun, hended, _, _, rfl, ?_, ⟨_, rfl⟩, hW, hsame.mono (by decide) (by decide)⟩
      · show Steps p.tables e below (T12.setTop (mkF m 37 #[.val (.ref a4_0), .val (.ref a4_1), .val (.ref a4_1)] [(.long w4_memoryMib_a4_1), (.long w4_memoryMib_a4_0)])) _
        refine XS.lcmp X12.here hx rfl (hb hby d4_37) rfl ?_
        show Steps p.tables e below (T12.setTop (mkF m 38 #[.val (.ref a4_0), .val (.ref a4_1), .val (.ref a4_1)] [(.int (lcmpW w4_memoryMib_a4_0 w4_memoryMib_a4_1))])) _
        refine XS.ifYes X12.here hx rfl (pc0 := 38) (pc' := 57) rfl (hb hby d4_38) rfl ((if0 _ _).trans (feq (fun q => hc14 ((lw_eq _ _).mp q))).2) (by decide) (by decide) ?_
        show Steps p.tables e below (T12.setTop (mkF m 57 #[.val (.ref a4_0), .val (.ref a4_1), .val (.ref a4_1)] [])) _
        refine XS.iconst X12.here hx rfl (hb hby d4_57) ?_
        show Steps p.tables e below (T12.setTop (mkF m 58 #[.val (.ref a4_0), .val (.ref a4_1), .val (.ref a4_1)] [(.int (0 : Int32))])) _
        exact retN X12 hx (t := .boolean) Bd.returns (by simp) (hb hby d4_58) hr
      · show Q4_o Z a4_0 a4_1 w4_cpuMilli_a4_0 w4_cpuMilli_a4_1 w4_memoryMib_a4_0 w4_memoryMib_a4_1 w4_gpuMilli_a4_0 w4_gpuMilli_a4_1 h0 n0 _ T12.heap _
        rw [e12]
        exact ⟨(congrArg (fun z => some (Value.int z)) ((bI_f (fun z => (fun z => hc14 z.1) z.2)) : (bI ((w4_cpuMilli_a4_0 = w4_cpuMilli_a4_1) ∧ ((w4_memoryMib_a4_0 = w4_memoryMib_a4_1) ∧ (w4_gpuMilli_a4_0 = w4_gpuMilli_a4_1)))) = (0 : Int32)).symm), N0, rfl⟩
  · obtain ⟨fs, hr, hrun, hended, hW, hsame⟩ := X7.leave (v := some (.int (0 : Int32))) (fun h => by rw [Bd.returns] at h; cases h)
    refine ⟨_, _, pre8 _ ?_, hrun, hended, _, _, rfl, ?_, ⟨_, rfl⟩, hW, hsame.mono (by decide) (by decide)⟩
    · show Steps p.tables e below (T7.setTop (mkF m 25 #[.val (.ref a4_0), .val (.ref a4_1), .val (.ref a4_1)] [(.long w4_cpuMilli_a4_1), (.long w4_cpuMilli_a4_0)])) _
      refine XS.lcmp X7.here hx rfl (hb hby d4_25) rfl ?_
      show Steps p.tables e below (T7.setTop (mkF m 26 #[.val (.ref a4_0), .val (.ref a4_1), .val (.ref a4_1)] [(.int (lcmpW w4_cpuMilli_a4_0 w4_cpuMilli_a4_1))])) _
      refine XS.ifYes X7.here hx rfl (pc0 := 26) (pc' := 57) rfl (hb hby d4_26) rfl ((if0 _ _).trans (feq (fun q => hc9 ((lw_eq _ _).mp q))).2) (by decide) (by decide) ?_
      show Steps p.tables e below (T7.setTop (mkF m 57 #[.val (.ref a4_0), .val (.ref a4_1), .val (.ref a4_1)] [])) _
      refine XS.iconst X7.here hx rfl (hb hby d4_57) ?_
      show Steps p.tables e below (T7.setTop (mkF m 58 #[.val (.ref a4_0), .val (.ref a4_1), .val (.ref a4_1)] [(.int (0 : Int32))])) _
      exact retN X7 hx (t := .boolean) Bd.returns (by simp) (hb hby d4_58) hr
    · show Q4_o Z a4_0 a4_1 w4_cpuMilli_a4_0 w4_cpuMilli_a4_1 w4_memoryMib_a4_0 w4_memoryMib_a4_1 w4_gpuMilli_a4_0 w4_gpuMilli_a4_1 h0 n0 _ T7.heap _
      rw [e7]
      exact ⟨(congrArg (fun z => some (Value.int z)) ((bI_f (fun z => hc9 z.1)) : (bI ((w4_cpuMilli_a4_0 = w4_cpuMilli_a4_1) ∧ ((w4_memoryMib_a4_0 = w4_memoryMib_a4_1) ∧ (w4_gpuMilli_a4_0 = w4_gpuMilli_a4_1)))) = (0 : Int32)).symm), N0, rfl⟩
theorem ef_4_rm4_s (m : MethodId) (x0 : Addr) : entryFrame m #[(.ref x0), (.ref x0)] 3 = mkF m 0 #[.val (.ref x0), .val (.ref x0), .unset] [] := by first | (simp [entryFrame, mkF, argsToLocals, Value.category]; done) | rfl
def Q4_s (Z : State) (a4_0 : Addr) (h0 : Heap) (n0 : Nat) (v : Option Value) (h : Heap) (L : List Loc) : Prop := v = some (.int (1 : Int32)) ∧ Fr n0 L ∧ h = h0
set_option maxRecDepth 65536 in
set_option maxHeartbeats 40000000 in
theorem rm4_s (l : Launch) (Z : State) (a0 : Array Value) (hw : ∀ d ∈ tables_1, d.before a0 Z = true) (ws : List Jvm.Cond) (a4_0 : Addr) (h0 : Heap) (n0 : Nat) (Z0 : n0 ≤ h0.size) :
    MetFree l (⟨"com/example/nearlane/nearlane/model/Resources", "equals", "(Ljava/lang/Object;)Z"⟩ : MethodName) (head1 (Jvm.Cond.code (⟨"com/example/nearlane/nearlane/model/Resources", "equals", "(Ljava/lang/Object;)Z"⟩ : MethodName) prog_174_method_2_code 3 (some .boolean) :: ws) ({ frames := 0, cells := 0, slots := 0, locals := 0 } : Room)) (fun a U => a = #[(.ref a4_0), (.ref a4_0)] ∧ Z.Warmed39 U.vm ∧ U.heap = h0) (fun _ _ _ _ _ => True) (fun _ U o U' => ∃ v L, o = .returned v ∧ Q4_s Z a4_0 h0 n0 v U'.heap L ∧ FrameEnd U o U' L ({ frames := 0, cells := 0, slots := 0, locals := 0 } : Room).cells ({ frames := 0, cells := 0, slots := 0, locals := 0 } : Room).slots) := by
  refine MetFree.of_bodySF (plainFor_of_name pn_4) hisR ?_
  intro p e s m args below meth c s₁ Bd hml0 hP hK
  obtain ⟨rfl, hZ, hh⟩ := hP
  have hVV : ∀ (i : Nat) (d : Jvm.Cond), tables_1[i]? = some d → d.before a0 Z = true := fun i d h => hw d (List.mem_of_getElem? h)
  have hx := Bd.exec
  have hby := Bd.bytes
  have hml : c.maxLocals = 3 := hml0
  have hown : s.vm.findClass "com/example/nearlane/nearlane/model/Resources" = some m.cls := findClass_of_methodNamed Bd.named
  have hnm := (name_of_methodNamed Bd.named Bd.method).1
  have X0 : Stand p l e ({ frames := 0, cells := 0, slots := 0, locals := 0 } : Room) s m #[(.ref a4_0), (.ref a4_0)] below meth c s₁ [] 0 0 := Stand.of_body Bd
  have e0 : s₁.heap = h0 := by rw [← hh, Bd.state]; rfl
  have N0 := Fr.nil n0
  have pre0 : ∀ t, Steps p.tables e below (s₁.setTop (mkF m 0 #[.val (.ref a4_0), .val (.ref a4_0), .unset] [])) t → Steps p.tables e below (s₁.setTop (entryFrame m #[(.ref a4_0), (.ref a4_0)] 3)) t := fun t k => castTop (ef_4_rm4_s m a4_0) k
  obtain ⟨fs, hr, hrun, hended, hW, hsame⟩ := X0.leave (v := some (.int (1 : Int32))) (fun h => by rw [Bd.returns] at h; cases h)
  refine ⟨_, _, pre0 _ ?_, hrun, hended, _, _, rfl, ?_, ⟨_, rfl⟩, hW, hsame.mono (by decide) (by decide)⟩
  · show Steps p.tables e below (s₁.setTop (mkF m 0 #[.val (.ref a4_0), .val (.ref a4_0), .unset] [])) _
    refine XS.aloadN X0.here hx rfl (hb hby d4_0) rfl rfl ?_
    show Steps p.tables e below (s₁.setTop (mkF m 1 #[.val (.ref a4_0), .val (.ref a4_0), .unset] [(.ref a4_0)])) _
    refine XS.aloadN X0.here hx rfl (hb hby d4_1) rfl rfl ?_
    show Steps p.tables e below (s₁.setTop (mkF m 2 #[.val (.ref a4_0), .val (.ref a4_0), .unset] [(.ref a4_0), (.ref a4_0)])) _
    refine Jvm.RoadKit.acmp (g := (mkF m 2 #[.val (.ref a4_0), .val (.ref a4_0), .unset] [(.ref a4_0), (.ref a4_0)])) X0 hx rfl rfl rfl (pc0 := 2) (pc' := 53) (same := true) rfl (hb hby d4_2) rfl (decide_eq_true rfl) (by decide) (by decide) ?_
    show Steps p.tables e below (s₁.setTop (mkF m 53 #[.val (.ref a4_0), .val (.ref a4_0), .unset] [])) _
    refine XS.iconst X0.here hx rfl (hb hby d4_53) ?_
    show Steps p.tables e below (s₁.setTop (mkF m 54 #[.val (.ref a4_0), .val (.ref a4_0), .unset] [(.int (1 : Int32))])) _
    refine XS.goto X0.here hx rfl (pc0 := 54) (pc' := 58) rfl (hb hby d4_54) (by decide) (by decide) ?_
    show Steps p.tables e below (s₁.setTop (mkF m 58 #[.val (.ref a4_0), .val (.ref a4_0), .unset] [(.int (1 : Int32))])) _
    exact retN X0 hx (t := .boolean) Bd.returns (by simp) (hb hby d4_58) hr
  · show Q4_s Z a4_0 h0 n0 _ s₁.heap _
    rw [e0]
    exact ⟨rfl, N0, rfl⟩
theorem ef_4n1 (m : MethodId) (x0 : Addr) : entryFrame m #[(.ref x0), .null] 3 = mkF m 0 #[.val (.ref x0), .val .null, .unset] [] := by first | (simp [entryFrame, mkF, argsToLocals, Value.category]; done) | rfl
def Q4_n (Z : State) (a4_0 : Addr) (h0 : Heap) (n0 : Nat) (v : Option Value) (h : Heap) (L : List Loc) : Prop := v = some (.int (0 : Int32)) ∧ Fr n0 L ∧ h = h0
set_option maxRecDepth 65536 in
set_option maxHeartbeats 40000000 in
theorem rm4_n (l : Launch) (Z : State) (a0 : Array Value) (hw : ∀ d ∈ tables_1, d.before a0 Z = true) (ws : List Jvm.Cond) (a4_0 : Addr) (h0 : Heap) (n0 : Nat) (Z0 : n0 ≤ h0.size) :
    MetFree l (⟨"com/example/nearlane/nearlane/model/Resources", "equals", "(Ljava/lang/Object;)Z"⟩ : MethodName) (head1 (Jvm.Cond.code (⟨"com/example/nearlane/nearlane/model/Resources", "equals", "(Ljava/lang/Object;)Z"⟩ : MethodName) prog_174_method_2_code 3 (some .boolean) :: ws) ({ frames := 0, cells := 0, slots := 0, locals := 0 } : Room)) (fun a U => a = #[(.ref a4_0), .null] ∧ Z.Warmed39 U.vm ∧ U.heap = h0) (fun _ _ _ _ _ => True) (fun _ U o U' => ∃ v L, o = .returned v ∧ Q4_n Z a4_0 h0 n0 v U'.heap L ∧ FrameEnd U o U' L ({ frames := 0, cells := 0, slots := 0, locals := 0 } : Room).cells ({ frames := 0, cells := 0, slots := 0, locals := 0 } : Room).slots) := by
  refine MetFree.of_bodySF (plainFor_of_name pn_4) hisR ?_
  intro p e s m args below meth c s₁ Bd hml0 hP hK
  obtain ⟨rfl, hZ, hh⟩ := hP
  have hVV : ∀ (i : Nat) (d : Jvm.Cond), tables_1[i]? = some d → d.before a0 Z = true := fun i d h => hw d (List.mem_of_getElem? h)
  have hx := Bd.exec
  have hby := Bd.bytes
  have hml : c.maxLocals = 3 := hml0
  have hown : s.vm.findClass "com/example/nearlane/nearlane/model/Resources" = some m.cls := findClass_of_methodNamed Bd.named
  have hnm := (name_of_methodNamed Bd.named Bd.method).1
  have X0 : Stand p l e ({ frames := 0, cells := 0, slots := 0, locals := 0 } : Room) s m #[(.ref a4_0), .null] below meth c s₁ [] 0 0 := Stand.of_body Bd
  have e0 : s₁.heap = h0 := by rw [← hh, Bd.state]; rfl
  have N0 := Fr.nil n0
  have pre0 : ∀ t, Steps p.tables e below (s₁.setTop (mkF m 0 #[.val (.ref a4_0), .val .null, .unset] [])) t → Steps p.tables e below (s₁.setTop (entryFrame m #[(.ref a4_0), .null] 3)) t := fun t k => castTop (ef_4n1 m a4_0) k
  obtain ⟨fs, hr, hrun, hended, hW, hsame⟩ := X0.leave (v := some (.int (0 : Int32))) (fun h => by rw [Bd.returns] at h; cases h)
  refine ⟨_, _, pre0 _ ?_, hrun, hended, _, _, rfl, ?_, ⟨_, rfl⟩, hW, hsame.mono (by decide) (by decide)⟩
  · show Steps p.tables e below (s₁.setTop (mkF m 0 #[.val (.ref a4_0), .val .null, .unset] [])) _
    refine XS.aloadN X0.here hx rfl (hb hby d4_0) rfl rfl ?_
    show Steps p.tables e below (s₁.setTop (mkF m 1 #[.val (.ref a4_0), .val .null, .unset] [(.ref a4_0)])) _
    refine XS.aloadN X0.here hx rfl (hb hby d4_1) rfl rfl ?_
    show Steps p.tables e below (s₁.setTop (mkF m 2 #[.val (.ref a4_0), .val .null, .unset] [.null, (.ref a4_0)])) _
    refine Jvm.RoadKit.acmp (g := (mkF m 2 #[.val (.ref a4_0), .val .null, .unset] [.null, (.ref a4_0)])) X0 hx rfl rfl rfl (pc0 := 2) (pc' := 5) (same := false) rfl (hb hby d4_2) rfl (decide_eq_false nofun) (by decide) (by decide) ?_
    show Steps p.tables e below (s₁.setTop (mkF m 5 #[.val (.ref a4_0), .val .null, .unset] [])) _
    refine XS.aloadN X0.here hx rfl (hb hby d4_5) rfl rfl ?_
    show Steps p.tables e below (s₁.setTop (mkF m 6 #[.val (.ref a4_0), .val .null, .unset] [.null])) _
    refine X0.instanceofNull hx (g := (mkF m 6 #[.val (.ref a4_0), .val .null, .unset] [.null])) rfl rfl (hb hby d4_6) _ ?_
    show Steps p.tables e below (s₁.setTop (mkF m 9 #[.val (.ref a4_0), .val .null, .unset] [(.int (0 : Int32))])) _
    refine XS.ifYes X0.here hx rfl (pc0 := 9) (pc' := 57) rfl (hb hby d4_9) rfl ((if0 _ _).trans (teq (by decide : (0 : Int32) = (0 : Int32))).1) (by decide) (by decide) ?_
    show Steps p.tables e below (s₁.setTop (mkF m 57 #[.val (.ref a4_0), .val .null, .unset] [])) _
    refine XS.iconst X0.here hx rfl (hb hby d4_57) ?_
    show Steps p.tables e below (s₁.setTop (mkF m 58 #[.val (.ref a4_0), .val .null, .unset] [(.int (0 : Int32))])) _
    exact retN X0 hx (t := .boolean) Bd.returns (by simp) (hb hby d4_58) hr
  · show Q4_n Z a4_0 h0 n0 _ s₁.heap _
    rw [e0]
    exact ⟨rfl, N0, rfl⟩
def Q4_l (Z : State) (a4_0 : Addr) (a4_1 : Addr) (h0 : Heap) (n0 : Nat) (v : Option Value) (h : Heap) (L : List Loc) : Prop := v = some (.int (0 : Int32)) ∧ Fr n0 L ∧ h = h0
set_option maxRecDepth 65536 in
set_option maxHeartbeats 40000000 in
theorem rm4_l (l : Launch) (Z : State) (a0 : Array Value) (hw : ∀ d ∈ tables_1, d.before a0 Z = true) (ws : List Jvm.Cond) (a4_0 : Addr) (a4_1 : Addr) (h0 : Heap) (n0 : Nat) (Z0 : n0 ≤ h0.size) (EE_a4_1 : Exa Z h0 a4_1 "java/lang/Long") (ne_a4_0_a4_1 : a4_0 ≠ a4_1) :
    MetFree l (⟨"com/example/nearlane/nearlane/model/Resources", "equals", "(Ljava/lang/Object;)Z"⟩ : MethodName) (head1 (Jvm.Cond.code (⟨"com/example/nearlane/nearlane/model/Resources", "equals", "(Ljava/lang/Object;)Z"⟩ : MethodName) prog_174_method_2_code 3 (some .boolean) :: ws) ({ frames := 0, cells := 0, slots := 0, locals := 0 } : Room)) (fun a U => a = #[(.ref a4_0), (.ref a4_1)] ∧ Z.Warmed39 U.vm ∧ U.heap = h0) (fun _ _ _ _ _ => True) (fun _ U o U' => ∃ v L, o = .returned v ∧ Q4_l Z a4_0 a4_1 h0 n0 v U'.heap L ∧ FrameEnd U o U' L ({ frames := 0, cells := 0, slots := 0, locals := 0 } : Room).cells ({ frames := 0, cells := 0, slots := 0, locals := 0 } : Room).slots) := by
  refine MetFree.of_bodySF (plainFor_of_name pn_4) hisR ?_
  intro p e s m args below meth c s₁ Bd hml0 hP hK
  obtain ⟨rfl, hZ, hh⟩ := hP
  have hVV : ∀ (i : Nat) (d : Jvm.Cond), tables_1[i]? = some d → d.before a0 Z = true := fun i d h => hw d (List.mem_of_getElem? h)
  have hx := Bd.exec
  have hby := Bd.bytes
  have hml : c.maxLocals = 3 := hml0
  have hown : s.vm.findClass "com/example/nearlane/nearlane/model/Resources" = some m.cls := findClass_of_methodNamed Bd.named
  have hnm := (name_of_methodNamed Bd.named Bd.method).1
  have X0 : Stand p l e ({ frames := 0, cells := 0, slots := 0, locals := 0 } : Room) s m #[(.ref a4_0), (.ref a4_1)] below meth c s₁ [] 0 0 := Stand.of_body Bd
  have e0 : s₁.heap = h0 := by rw [← hh, Bd.state]; rfl
  have N0 := Fr.nil n0
  have pre0 : ∀ t, Steps p.tables e below (s₁.setTop (mkF m 0 #[.val (.ref a4_0), .val (.ref a4_1), .unset] [])) t → Steps p.tables e below (s₁.setTop (entryFrame m #[(.ref a4_0), (.ref a4_1)] 3)) t := fun t k => castTop (ef_4 m a4_0 a4_1) k
  obtain ⟨T1, X1, e1, st1⟩ := instNo X0 hx hZ hown (hVV 25 _ rfl) e0 EE_a4_1 (own_no (hVV 48 _ rfl) (hVV 49 _ rfl) (hVV 50 _ rfl) (hVV 1 _ rfl) (hVV 34 _ rfl) (by decide) (by decide) (by decide)) (g := (mkF m 6 #[.val (.ref a4_0), .val (.ref a4_1), .unset] [(.ref a4_1)])) rfl rfl (hb hby d4_6)
  have pre2 : ∀ t, Steps p.tables e below (T1.setTop (mkF m 9 #[.val (.ref a4_0), .val (.ref a4_1), .unset] [(.int (0 : Int32))])) t → Steps p.tables e below (s₁.setTop (entryFrame m #[(.ref a4_0), (.ref a4_1)] 3)) t := fun t k => pre0 t (by
    show Steps p.tables e below (s₁.setTop (mkF m 0 #[.val (.ref a4_0), .val (.ref a4_1), .unset] [])) _
    refine XS.aloadN X0.here hx rfl (hb hby d4_0) rfl rfl ?_
    show Steps p.tables e below (s₁.setTop (mkF m 1 #[.val (.ref a4_0), .val (.ref a4_1), .unset] [(.ref a4_0)])) _
    refine XS.aloadN X0.here hx rfl (hb hby d4_1) rfl rfl ?_
    show Steps p.tables e below (s₁.setTop (mkF m 2 #[.val (.ref a4_0), .val (.ref a4_1), .unset] [(.ref a4_1), (.ref a4_0)])) _
    refine Jvm.RoadKit.acmp (g := (mkF m 2 #[.val (.ref a4_0), .val (.ref a4_1), .unset] [(.ref a4_1), (.ref a4_0)])) X0 hx rfl rfl rfl (pc0 := 2) (pc' := 5) (same := false) rfl (hb hby d4_2) rfl (decide_eq_false fun q => ne_a4_0_a4_1 (Value.ref.inj q)) (by decide) (by decide) ?_
    show Steps p.tables e below (s₁.setTop (mkF m 5 #[.val (.ref a4_0), .val (.ref a4_1), .unset] [])) _
    refine XS.aloadN X0.here hx rfl (hb hby d4_5) rfl rfl ?_
    show Steps p.tables e below (s₁.setTop (mkF m 6 #[.val (.ref a4_0), .val (.ref a4_1), .unset] [(.ref a4_1)])) _
    refine st1 _ ?_
    exact k)
  obtain ⟨fs, hr, hrun, hended, hW, hsame⟩ := X1.leave (v := some (.int (0 : Int32))) (fun h => by rw [Bd.returns] at h; cases h)
  refine ⟨_, _, pre2 _ ?_, hrun, hended, _, _, rfl, ?_, ⟨_, rfl⟩, hW, hsame.mono (by decide) (by decide)⟩
  · show Steps p.tables e below (T1.setTop (mkF m 9 #[.val (.ref a4_0), .val (.ref a4_1), .unset] [(.int (0 : Int32))])) _
    refine XS.ifYes X1.here hx rfl (pc0 := 9) (pc' := 57) rfl (hb hby d4_9) rfl ((if0 _ _).trans (teq (by decide : (0 : Int32) = (0 : Int32))).1) (by decide) (by decide) ?_
    show Steps p.tables e below (T1.setTop (mkF m 57 #[.val (.ref a4_0), .val (.ref a4_1), .unset] [])) _
    refine XS.iconst X1.here hx rfl (hb hby d4_57) ?_
    show Steps p.tables e below (T1.setTop (mkF m 58 #[.val (.ref a4_0), .val (.ref a4_1), .unset] [(.int (0 : Int32))])) _
    exact retN X1 hx (t := .boolean) Bd.returns (by simp) (hb hby d4_58) hr
  · show Q4_l Z a4_0 a4_1 h0 n0 _ T1.heap _
    rw [e1]
    exact ⟨rfl, N0, rfl⟩
theorem d7_0 : decode jdk_18_method_1_code 0 = .ok (.aload_n 0, 1) := by decide +kernel
theorem d7_1 : decode jdk_18_method_1_code 1 = .ok (.invokespecial 1, 3) := by decide +kernel
theorem d7_4 : decode jdk_18_method_1_code 4 = .ok (.return_, 1) := by decide +kernel
theorem pn_7 : plainName "java/lang/Number" = true := by first | (simp [plainName, overriddenIn]; done) | decide +kernel
theorem ef_7 (m : MethodId) (x0 : Addr) : entryFrame m #[(.ref x0)] 1 = mkF m 0 #[.val (.ref x0)] [] := by first | (simp [entryFrame, mkF, argsToLocals, Value.category]; done) | rfl
def Q7 (Z : State) (a7_0 : Addr) (h0 : Heap) (n0 : Nat) (v : Option Value) (h : Heap) (L : List Loc) : Prop := v = none ∧ Fr n0 L ∧ h = h0
set_option maxRecDepth 65536 in
set_option maxHeartbeats 40000000 in
theorem rm7 (l : Launch) (Z : State) (a0 : Array Value) (hw : ∀ d ∈ tables_1, d.before a0 Z = true) (ws : List Jvm.Cond) (a7_0 : Addr) (h0 : Heap) (n0 : Nat) (Z0 : n0 ≤ h0.size) :
    MetFree l (⟨"java/lang/Number", "<init>", "()V"⟩ : MethodName) (head1 (Jvm.Cond.code (⟨"java/lang/Number", "<init>", "()V"⟩ : MethodName) jdk_18_method_1_code 1 none :: ws) ({ frames := 1, cells := 0, slots := 0, locals := 12 } : Room)) (fun a U => a = #[(.ref a7_0)] ∧ Z.Warmed39 U.vm ∧ U.heap = h0) (fun _ _ _ _ _ => True) (fun _ U o U' => ∃ v L, o = .returned v ∧ Q7 Z a7_0 h0 n0 v U'.heap L ∧ FrameEnd U o U' L ({ frames := 1, cells := 0, slots := 0, locals := 12 } : Room).cells ({ frames := 1, cells := 0, slots := 0, locals := 12 } : Room).slots) := by
  refine MetFree.of_bodySF (plainFor_of_name pn_7) hisR ?_
  intro p e s m args below meth c s₁ Bd hml0 hP hK
  obtain ⟨rfl, hZ, hh⟩ := hP
  have hVV : ∀ (i : Nat) (d : Jvm.Cond), tables_1[i]? = some d → d.before a0 Z = true := fun i d h => hw d (List.mem_of_getElem? h)
  have hx := Bd.exec
  have hby := Bd.bytes
  have hml : c.maxLocals = 1 := hml0
  have hown : s.vm.findClass "java/lang/Number" = some m.cls := findClass_of_methodNamed Bd.named
  have hnm := (name_of_methodNamed Bd.named Bd.method).1
  have X0 : Stand p l e ({ frames := 1, cells := 0, slots := 0, locals := 12 } : Room) s m #[(.ref a7_0)] below meth c s₁ [] 0 0 := Stand.of_body Bd
  have e0 : s₁.heap = h0 := by rw [← hh, Bd.state]; rfl
  have N0 := Fr.nil n0
  have pre0 : ∀ t, Steps p.tables e below (s₁.setTop (mkF m 0 #[.val (.ref a7_0)] [])) t → Steps p.tables e below (s₁.setTop (entryFrame m #[(.ref a7_0)] 1)) t := fun t k => castTop (ef_7 m a7_0) k
  obtain ⟨T1, X1, e1, st1⟩ := initO X0 hx hZ hown (hVV 45 _ rfl) (hVV 12 _ rfl) (hVV 13 _ rfl) e0 (g := (mkF m 1 #[.val (.ref a7_0)] [(.ref a7_0)])) rfl (by rw [hml]; rfl) rfl (hb hby d7_1) (by decide) (W := 0) (by show 2 * 0 + _ ≤ _; exact Nat.le_of_eq rfl) (by decide)
  have pre2 : ∀ t, Steps p.tables e below (T1.setTop (mkF m 4 #[.val (.ref a7_0)] [])) t → Steps p.tables e below (s₁.setTop (entryFrame m #[(.ref a7_0)] 1)) t := fun t k => pre0 t (by
    show Steps p.tables e below (s₁.setTop (mkF m 0 #[.val (.ref a7_0)] [])) _
    refine XS.aloadN X0.here hx rfl (hb hby d7_0) rfl rfl ?_
    show Steps p.tables e below (s₁.setTop (mkF m 1 #[.val (.ref a7_0)] [(.ref a7_0)])) _
    refine st1 _ ?_
    exact k)
  obtain ⟨fs, hr, hrun, hended, hW, hsame⟩ := X1.leave (v := none) (fun _ => rfl)
  refine ⟨_, _, pre2 _ ?_, hrun, hended, _, _, rfl, ?_, ⟨_, rfl⟩, hW, hsame.mono (by decide) (by decide)⟩
  · show Steps p.tables e below (T1.setTop (mkF m 4 #[.val (.ref a7_0)] [])) _
    exact X1.returnOut hx Bd.returns (hb hby d7_4) hr
  · show Q7 Z a7_0 h0 n0 _ T1.heap _
    rw [e1]
    exact ⟨rfl, N0, rfl⟩
theorem d6_0 : decode jdk_35_method_26_code 0 = .ok (.aload_n 0, 1) := by decide +kernel
theorem d6_1 : decode jdk_35_method_26_code 1 = .ok (.invokespecial 270, 3) := by decide +kernel
theorem d6_4 : decode jdk_35_method_26_code 4 = .ok (.aload_n 0, 1) := by decide +kernel
theorem d6_5 : decode jdk_35_method_26_code 5 = .ok (.lload_n 1, 1) := by decide +kernel
theorem d6_6 : decode jdk_35_method_26_code 6 = .ok (.putfield 273, 3) := by decide +kernel
theorem d6_9 : decode jdk_35_method_26_code 9 = .ok (.return_, 1) := by decide +kernel
theorem pn_6 : plainName "java/lang/Long" = true := by first | (simp [plainName, overriddenIn]; done) | decide +kernel
theorem ef_6 (m : MethodId) (x0 : Addr) (x1 : Int64) : entryFrame m #[(.ref x0), (.long x1)] 3 = mkF m 0 #[.val (.ref x0), .val (.long x1), .second] [] := by first | (simp [entryFrame, mkF, argsToLocals, Value.category]; done) | rfl
def Q6 (Z : State) (a6_0 : Addr) (q6_1 : Int64) (w6_value_a6_0 : Int64) (h0 : Heap) (n0 : Nat) (v : Option Value) (h : Heap) (L : List Loc) : Prop := v = none ∧ Fr n0 L ∧ Keep h0 h [a6_0] ∧ Exa Z h a6_0 "java/lang/Long" ∧ Fld Z h a6_0 "java/lang/Long" "value" "J" (.long q6_1)
set_option maxRecDepth 65536 in
set_option maxHeartbeats 40000000 in
theorem rm6 (l : Launch) (Z : State) (a0 : Array Value) (hw : ∀ d ∈ tables_1, d.before a0 Z = true) (ws : List Jvm.Cond) (a6_0 : Addr) (q6_1 : Int64) (w6_value_a6_0 : Int64) (h0 : Heap) (n0 : Nat) (Z0 : n0 ≤ h0.size) (E_a6_0 : Exa Z h0 a6_0 "java/lang/Long") (F_value_a6_0 : Fld Z h0 a6_0 "java/lang/Long" "value" "J" (.long w6_value_a6_0)) (g_a6_0 : n0 ≤ a6_0) :
    MetFree l (⟨"java/lang/Long", "<init>", "(J)V"⟩ : MethodName) (head1 (Jvm.Cond.code (⟨"java/lang/Long", "<init>", "(J)V"⟩ : MethodName) jdk_35_method_26_code 3 none :: ws) ({ frames := 2, cells := 0, slots := 0, locals := 24 } : Room)) (fun a U => a = #[(.ref a6_0), (.long q6_1)] ∧ Z.Warmed39 U.vm ∧ U.heap = h0) (fun _ _ _ _ _ => True) (fun _ U o U' => ∃ v L, o = .returned v ∧ Q6 Z a6_0 q6_1 w6_value_a6_0 h0 n0 v U'.heap L ∧ FrameEnd U o U' L ({ frames := 2, cells := 0, slots := 0, locals := 24 } : Room).cells ({ frames := 2, cells := 0, slots := 0, locals := 24 } : Room).slots) := by
  refine MetFree.of_bodySF (plainFor_of_name pn_6) hisR ?_
  intro p e s m args below meth c s₁ Bd hml0 hP hK
  obtain ⟨rfl, hZ, hh⟩ := hP
  have hVV : ∀ (i : Nat) (d : Jvm.Cond), tables_1[i]? = some d → d.before a0 Z = true := fun i d h => hw d (List.mem_of_getElem? h)
  have hx := Bd.exec
  have hby := Bd.bytes
  have hml : c.maxLocals = 3 := hml0
  have hown : s.vm.findClass "java/lang/Long" = some m.cls := findClass_of_methodNamed Bd.named
  have hnm := (name_of_methodNamed Bd.named Bd.method).1
  have X0 : Stand p l e ({ frames := 2, cells := 0, slots := 0, locals := 24 } : Room) s m #[(.ref a6_0), (.long q6_1)] below meth c s₁ [] 0 0 := Stand.of_body Bd
  have e0 : s₁.heap = h0 := by rw [← hh, Bd.state]; rfl
  have N0 := Fr.nil n0
  have pre0 : ∀ t, Steps p.tables e below (s₁.setTop (mkF m 0 #[.val (.ref a6_0), .val (.long q6_1), .second] [])) t → Steps p.tables e below (s₁.setTop (entryFrame m #[(.ref a6_0), (.long q6_1)] 3)) t := fun t k => castTop (ef_6 m a6_0 q6_1) k
  obtain ⟨_, _, ⟨T1, L1, k1, n1⟩, -, X1, ⟨Lc1, hQ1, l1, y1, z1⟩, st1⟩ := X0.specialBack hx (y := (⟨"java/lang/Number", "<init>", "()V"⟩ : MethodName)) rfl hown (mvT hZ (hVV 39 _ rfl)) (mvT hZ (hVV 40 _ rfl)) (mvT hZ (hVV 44 _ rfl)) (by decide) (backOf (W := 0) (rm7 l Z a0 hw [] a6_0 h0 n0 Z0 ) hZ (hVV 44 _ rfl) (hVV 43 _ rfl) (by decide) (by decide)) (g := (mkF m 1 #[.val (.ref a6_0), .val (.long q6_1), .second] [(.ref a6_0)])) rfl (by rw [hml]; rfl) (Steps.refl _) (a := a6_0) (argsL := []) (rest := []) (lenOf pd_0 rfl) rfl (by show 2 * 0 + _ ≤ _; exact Nat.le_of_eq rfl) (hb hby d6_1) (fun _ _ => ⟨rfl, e0, (by decide : 0 + 0 ≤ _), (by decide : 0 + 0 ≤ _)⟩)
  dsimp only [Pt.U, Pt.locs, Pt.cells, Pt.slots] at X1 l1 y1 z1 st1 hQ1
  subst l1 y1 z1
  obtain ⟨rfl, N1q, e1⟩ := hQ1
  have N2 := Fr.app N0 N1q
  have pre3 : ∀ t, Steps p.tables e below (T1.setTop (mkF m 4 #[.val (.ref a6_0), .val (.long q6_1), .second] [])) t → Steps p.tables e below (s₁.setTop (entryFrame m #[(.ref a6_0), (.long q6_1)] 3)) t := fun t k => pre0 t (by
    show Steps p.tables e below (s₁.setTop (mkF m 0 #[.val (.ref a6_0), .val (.long q6_1), .second] [])) _
    refine XS.aloadN X0.here hx rfl (hb hby d6_0) rfl rfl ?_
    show Steps p.tables e below (s₁.setTop (mkF m 1 #[.val (.ref a6_0), .val (.long q6_1), .second] [(.ref a6_0)])) _
    refine st1.trans ?_
    exact k)
  obtain ⟨T4, h4, X4, e4, W4, st4⟩ := putF X1 hx hZ hown (host := "") (Or.inl (hVV 46 _ rfl)) Via.refl e1 F_value_a6_0 E_a6_0 (Or.inr ⟨(hVV 47 _ rfl), rfl, hnm⟩) (hVV 34 _ rfl) (ty := .long) (by decide) rfl rfl (g := (mkF m 6 #[.val (.ref a6_0), .val (.long q6_1), .second] [(.long q6_1), (.ref a6_0)])) rfl rfl (hb hby d6_6)
  have pre5 : ∀ t, Steps p.tables e below (T4.setTop (mkF m 9 #[.val (.ref a6_0), .val (.long q6_1), .second] [])) t → Steps p.tables e below (s₁.setTop (entryFrame m #[(.ref a6_0), (.long q6_1)] 3)) t := fun t k => pre3 t (by
    show Steps p.tables e below (T1.setTop (mkF m 4 #[.val (.ref a6_0), .val (.long q6_1), .second] [])) _
    refine XS.aloadN X1.here hx rfl (hb hby d6_4) rfl rfl ?_
    show Steps p.tables e below (T1.setTop (mkF m 5 #[.val (.ref a6_0), .val (.long q6_1), .second] [(.ref a6_0)])) _
    refine XS.lloadN X1.here hx rfl (hb hby d6_5) rfl ?_
    show Steps p.tables e below (T1.setTop (mkF m 6 #[.val (.ref a6_0), .val (.long q6_1), .second] [(.long q6_1), (.ref a6_0)])) _
    refine st4 _ ?_
    exact k)
  have f6 := E_a6_0.wr W4
  have z7 := Nat.le_trans Z0 (Keep.of_wr W4).1
  have k8 := (Keep.refl h0 [a6_0]).wr W4 (Or.inl (List.mem_of_getElem? (i := 0) rfl))
  have f9 := F_value_a6_0.same W4
  have N10 := Fr.snoc X4 N2 g_a6_0
  obtain ⟨fs, hr, hrun, hended, hW, hsame⟩ := X4.leave (v := none) (fun _ => rfl)
  refine ⟨_, _, pre5 _ ?_, hrun, hended, _, _, rfl, ?_, ⟨_, rfl⟩, hW, hsame.mono (by decide) (by decide)⟩
  · show Steps p.tables e below (T4.setTop (mkF m 9 #[.val (.ref a6_0), .val (.long q6_1), .second] [])) _
    exact X4.returnOut hx Bd.returns (hb hby d6_9) hr
  · show Q6 Z a6_0 q6_1 w6_value_a6_0 h0 n0 _ T4.heap _
    rw [e4]
    exact ⟨rfl, N10, k8, f6, f9⟩
theorem pd_1 : parseMethodDescriptor "(J)V" = some ⟨[.long], none⟩ := by decide +kernel
theorem d5_0 : decode jdk_35_method_24_code 0 = .ok (.sipush 128, 3) := by decide +kernel
theorem d5_3 : decode jdk_35_method_24_code 3 = .ok (.istore_n 2, 1) := by decide +kernel
theorem d5_4 : decode jdk_35_method_24_code 4 = .ok (.lload_n 0, 1) := by decide +kernel
theorem d5_5 : decode jdk_35_method_24_code 5 = .ok (.ldc2_w 230, 3) := by decide +kernel
theorem d5_8 : decode jdk_35_method_24_code 8 = .ok (.lcmp, 1) := by decide +kernel
theorem d5_9 : decode jdk_35_method_24_code 9 = .ok (.ifCond .lt 22, 3) := by decide +kernel
theorem d5_31 : decode jdk_35_method_24_code 31 = .ok (.new 1, 3) := by decide +kernel
theorem d5_34 : decode jdk_35_method_24_code 34 = .ok (.dup, 1) := by decide +kernel
theorem d5_35 : decode jdk_35_method_24_code 35 = .ok (.lload_n 0, 1) := by decide +kernel
theorem d5_36 : decode jdk_35_method_24_code 36 = .ok (.invokespecial 240, 3) := by decide +kernel
theorem d5_39 : decode jdk_35_method_24_code 39 = .ok (.areturn, 1) := by decide +kernel
theorem pn_5 : plainName "java/lang/Long" = true := by first | (simp [plainName, overriddenIn]; done) | decide +kernel
theorem ef_5 (m : MethodId) (x0 : Int64) : entryFrame m #[(.long x0)] 3 = mkF m 0 #[.val (.long x0), .second, .unset] [] := by first | (simp [entryFrame, mkF, argsToLocals, Value.category]; done) | rfl
def Q5_lo (Z : State) (q5_0 : Int64) (r5 : Addr) (h0 : Heap) (n0 : Nat) (v : Option Value) (h : Heap) (L : List Loc) : Prop := v = some (.ref r5) ∧ Fr n0 L ∧ Keep h0 h [] ∧ Exa Z h r5 "java/lang/Long"
set_option maxRecDepth 65536 in
set_option maxHeartbeats 40000000 in
theorem rm5_lo (l : Launch) (Z : State) (a0 : Array Value) (hw : ∀ d ∈ tables_1, d.before a0 Z = true) (ws : List Jvm.Cond) (q5_0 : Int64) (r5 : Addr) (h0 : Heap) (n0 : Nat) (Z0 : n0 ≤ h0.size) (gr_r5 : r5 = h0.size) (hp5_9 : q5_0 < (-128 : Int64)) :
    MetFree l (⟨"java/lang/Long", "valueOf", "(J)Ljava/lang/Long;"⟩ : MethodName) (head1 (Jvm.Cond.code (⟨"java/lang/Long", "valueOf", "(J)Ljava/lang/Long;"⟩ : MethodName) jdk_35_method_24_code 3 (some (.object "java/lang/Long")) :: ws) ({ frames := 3, cells := 1, slots := 1, locals := 39 } : Room)) (fun a U => a = #[(.long q5_0)] ∧ Z.Warmed39 U.vm ∧ U.heap = h0) (fun _ _ _ _ _ => True) (fun _ U o U' => ∃ v L, o = .returned v ∧ Q5_lo Z q5_0 r5 h0 n0 v U'.heap L ∧ FrameEnd U o U' L ({ frames := 3, cells := 1, slots := 1, locals := 39 } : Room).cells ({ frames := 3, cells := 1, slots := 1, locals := 39 } : Room).slots) := by
  refine MetFree.of_bodySF (plainFor_of_name pn_5) hisR ?_
  intro p e s m args below meth c s₁ Bd hml0 hP hK
  obtain ⟨rfl, hZ, hh⟩ := hP
  have hVV : ∀ (i : Nat) (d : Jvm.Cond), tables_1[i]? = some d → d.before a0 Z = true := fun i d h => hw d (List.mem_of_getElem? h)
  have hx := Bd.exec
  have hby := Bd.bytes
  have hml : c.maxLocals = 3 := hml0
  have hown : s.vm.findClass "java/lang/Long" = some m.cls := findClass_of_methodNamed Bd.named
  have hnm := (name_of_methodNamed Bd.named Bd.method).1
  have X0 : Stand p l e ({ frames := 3, cells := 1, slots := 1, locals := 39 } : Room) s m #[(.long q5_0)] below meth c s₁ [] 0 0 := Stand.of_body Bd
  have e0 : s₁.heap = h0 := by rw [← hh, Bd.state]; rfl
  have N0 := Fr.nil n0
  have pre0 : ∀ t, Steps p.tables e below (s₁.setTop (mkF m 0 #[.val (.long q5_0), .second, .unset] [])) t → Steps p.tables e below (s₁.setTop (entryFrame m #[(.long q5_0)] 3)) t := fun t k => castTop (ef_5 m q5_0) k
  obtain ⟨T1, h1, X1, e1, E1, A1, D1, -, st1⟩ := newO X0 hx hZ hown (hVV 33 _ rfl) (hVV 34 _ rfl) (hVV 29 _ rfl) e0 (g := (mkF m 31 #[.val (.long q5_0), .second, .val (.int (128 : Int32))] [])) rfl (hb hby d5_31) (by decide) (by decide)
  have g1 := gr_r5
  rw [← g1] at A1 D1 st1
  have gz1 : n0 ≤ r5 := Nat.le_trans Z0 (Nat.le_of_eq g1.symm)
  have sz1 : h0.size ≤ r5 := Nat.le_trans (Keep.refl h0 []).1 (Nat.le_of_eq g1.symm)
  have pre2 : ∀ t, Steps p.tables e below (T1.setTop (mkF m 34 #[.val (.long q5_0), .second, .val (.int (128 : Int32))] [(.ref r5)])) t → Steps p.tables e below (s₁.setTop (entryFrame m #[(.long q5_0)] 3)) t := fun t k => pre0 t (by
    show Steps p.tables e below (s₁.setTop (mkF m 0 #[.val (.long q5_0), .second, .unset] [])) _
    refine XS.sipush X0.here hx rfl (hb hby d5_0) ?_
    show Steps p.tables e below (s₁.setTop (mkF m 3 #[.val (.long q5_0), .second, .unset] [(.int (128 : Int32))])) _
    refine XS.istoreN X0.here hx rfl (hb hby d5_3) rfl (l' := #[.val (.long q5_0), .second, .val (.int (128 : Int32))]) rfl ?_
    show Steps p.tables e below (s₁.setTop (mkF m 4 #[.val (.long q5_0), .second, .val (.int (128 : Int32))] [])) _
    refine XS.lloadN X0.here hx rfl (hb hby d5_4) rfl ?_
    show Steps p.tables e below (s₁.setTop (mkF m 5 #[.val (.long q5_0), .second, .val (.int (128 : Int32))] [(.long q5_0)])) _
    refine X0.ldc2Long hx hown (mvT hZ (hVV 31 _ rfl)) (g := (mkF m 5 #[.val (.long q5_0), .second, .val (.int (128 : Int32))] [(.long q5_0)])) rfl (hb hby d5_5) _ ?_
    show Steps p.tables e below (s₁.setTop (mkF m 8 #[.val (.long q5_0), .second, .val (.int (128 : Int32))] [(.long (-128 : Int64)), (.long q5_0)])) _
    refine XS.lcmp X0.here hx rfl (hb hby d5_8) rfl ?_
    show Steps p.tables e below (s₁.setTop (mkF m 9 #[.val (.long q5_0), .second, .val (.int (128 : Int32))] [(.int (lcmpW q5_0 (-128 : Int64)))])) _
    refine XS.ifYes X0.here hx rfl (pc0 := 9) (pc' := 31) rfl (hb hby d5_9) rfl ((if0 _ _).trans (tlt ((lw_lt _ _).mpr hp5_9)).1) (by decide) (by decide) ?_
    show Steps p.tables e below (s₁.setTop (mkF m 31 #[.val (.long q5_0), .second, .val (.int (128 : Int32))] [])) _
    refine st1 _ ?_
    exact k)
  have z3 := Nat.le_trans Z0 E1.1
  have k4 := (Keep.refl h0 []).ext E1
  have f5 : Fld Z h1 r5 "java/lang/Long" "value" "J" (.long (0 : Int64)) := D1 (Or.inr (hVV 47 _ rfl)) (ty := .long) (by decide)
  obtain ⟨_, _, ⟨T6, L6, k6, n6⟩, -, X6, ⟨Lc6, hQ6, l6, y6, z6⟩, st6⟩ := X1.specialBack hx (y := (⟨"java/lang/Long", "<init>", "(J)V"⟩ : MethodName)) rfl hown (mvT hZ (hVV 35 _ rfl)) (mvT hZ (hVV 36 _ rfl)) (mvT hZ (hVV 38 _ rfl)) (by decide) (backOf (W := 1) (rm6 l Z a0 hw [] r5 q5_0 (0 : Int64) h1 n0 z3 A1 f5 gz1) hZ (hVV 38 _ rfl) (hVV 29 _ rfl) (by decide) (by decide)) (g := (mkF m 36 #[.val (.long q5_0), .second, .val (.int (128 : Int32))] [(.long q5_0), (.ref r5), (.ref r5)])) rfl (by rw [hml]; rfl) (Steps.refl _) (a := r5) (argsL := [(.long q5_0)]) (rest := [(.ref r5)]) (lenOf pd_1 rfl) rfl (by show 2 * 0 + _ ≤ _; exact Nat.le_of_eq rfl) (hb hby d5_36) (fun _ _ => ⟨rfl, e1, (by decide : 1 + 0 ≤ _), (by decide : 1 + 0 ≤ _)⟩)
  dsimp only [Pt.U, Pt.locs, Pt.cells, Pt.slots] at X6 l6 y6 z6 st6 hQ6
  subst l6 y6 z6
  obtain ⟨rfl, N6q, K6, r6_0, r6_1⟩ := hQ6
  have N7 := Fr.app N0 N6q
  have pre8 : ∀ t, Steps p.tables e below (T6.setTop (mkF m 39 #[.val (.long q5_0), .second, .val (.int (128 : Int32))] [(.ref r5)])) t → Steps p.tables e below (s₁.setTop (entryFrame m #[(.long q5_0)] 3)) t := fun t k => pre2 t (by
    show Steps p.tables e below (T1.setTop (mkF m 34 #[.val (.long q5_0), .second, .val (.int (128 : Int32))] [(.ref r5)])) _
    refine XS.dup X1.here hx rfl (hb hby d5_34) rfl rfl ?_
    show Steps p.tables e below (T1.setTop (mkF m 35 #[.val (.long q5_0), .second, .val (.int (128 : Int32))] [(.ref r5), (.ref r5)])) _
    refine XS.lloadN X1.here hx rfl (hb hby d5_35) rfl ?_
    show Steps p.tables e below (T1.setTop (mkF m 36 #[.val (.long q5_0), .second, .val (.int (128 : Int32))] [(.long q5_0), (.ref r5), (.ref r5)])) _
    refine st6.trans ?_
    exact k)
  have f9 := A1.keep K6
  have z10 := Nat.le_trans z3 K6.1
  have k11 := k4.trans K6 (allS (Or.inr sz1) all0)
  obtain ⟨fs, hr, hrun, hended, hW, hsame⟩ := X6.leave (v := some (.ref r5)) (fun h => by rw [Bd.returns] at h; cases h)
  refine ⟨_, _, pre8 _ ?_, hrun, hended, _, _, rfl, ?_, ⟨_, rfl⟩, hW, hsame.mono (by decide) (by decide)⟩
  · show Steps p.tables e below (T6.setTop (mkF m 39 #[.val (.long q5_0), .second, .val (.int (128 : Int32))] [(.ref r5)])) _
    jvm_step X6.here [X6.here.top, hx, (hb hby d5_39), X6.method', Bd.returns, Value.isRef, FieldType.isReference]
    first | (intro acts; rw [hr _ acts rfl rfl rfl]) | rw [hr _ _ rfl rfl rfl]
    exact Steps.refl _
  · show Q5_lo Z q5_0 r5 h0 n0 _ T6.heap _
    exact ⟨rfl, N7, k11, r6_0⟩
theorem d5_12 : decode jdk_35_method_24_code 12 = .ok (.lload_n 0, 1) := by decide +kernel
theorem d5_13 : decode jdk_35_method_24_code 13 = .ok (.ldc2_w 232, 3) := by decide +kernel
theorem d5_16 : decode jdk_35_method_24_code 16 = .ok (.lcmp, 1) := by decide +kernel
theorem d5_17 : decode jdk_35_method_24_code 17 = .ok (.ifCond .gt 14, 3) := by decide +kernel
def Q5_hi (Z : State) (q5_0 : Int64) (r5 : Addr) (h0 : Heap) (n0 : Nat) (v : Option Value) (h : Heap) (L : List Loc) : Prop := v = some (.ref r5) ∧ Fr n0 L ∧ Keep h0 h [] ∧ Exa Z h r5 "java/lang/Long"
set_option maxRecDepth 65536 in
set_option maxHeartbeats 40000000 in
theorem rm5_hi (l : Launch) (Z : State) (a0 : Array Value) (hw : ∀ d ∈ tables_1, d.before a0 Z = true) (ws : List Jvm.Cond) (q5_0 : Int64) (r5 : Addr) (h0 : Heap) (n0 : Nat) (Z0 : n0 ≤ h0.size) (gr_r5 : r5 = h0.size) (hp5_9 : ¬ (q5_0 < (-128 : Int64))) (hp5_17 : (127 : Int64) < q5_0) :
    MetFree l (⟨"java/lang/Long", "valueOf", "(J)Ljava/lang/Long;"⟩ : MethodName) (head1 (Jvm.Cond.code (⟨"java/lang/Long", "valueOf", "(J)Ljava/lang/Long;"⟩ : MethodName) jdk_35_method_24_code 3 (some (.object "java/lang/Long")) :: ws) ({ frames := 3, cells := 1, slots := 1, locals := 39 } : Room)) (fun a U => a = #[(.long q5_0)] ∧ Z.Warmed39 U.vm ∧ U.heap = h0) (fun _ _ _ _ _ => True) (fun _ U o U' => ∃ v L, o = .returned v ∧ Q5_hi Z q5_0 r5 h0 n0 v U'.heap L ∧ FrameEnd U o U' L ({ frames := 3, cells := 1, slots := 1, locals := 39 } : Room).cells ({ frames := 3, cells := 1, slots := 1, locals := 39 } : Room).slots) := by
  refine MetFree.of_bodySF (plainFor_of_name pn_5) hisR ?_
  intro p e s m args below meth c s₁ Bd hml0 hP hK
  obtain ⟨rfl, hZ, hh⟩ := hP
  have hVV : ∀ (i : Nat) (d : Jvm.Cond), tables_1[i]? = some d → d.before a0 Z = true := fun i d h => hw d (List.mem_of_getElem? h)
  have hx := Bd.exec
  have hby := Bd.bytes
  have hml : c.maxLocals = 3 := hml0
  have hown : s.vm.findClass "java/lang/Long" = some m.cls := findClass_of_methodNamed Bd.named
  have hnm := (name_of_methodNamed Bd.named Bd.method).1
  have X0 : Stand p l e ({ frames := 3, cells := 1, slots := 1, locals := 39 } : Room) s m #[(.long q5_0)] below meth c s₁ [] 0 0 := Stand.of_body Bd
  have e0 : s₁.heap = h0 := by rw [← hh, Bd.state]; rfl
  have N0 := Fr.nil n0
  have pre0 : ∀ t, Steps p.tables e below (s₁.setTop (mkF m 0 #[.val (.long q5_0), .second, .unset] [])) t → Steps p.tables e below (s₁.setTop (entryFrame m #[(.long q5_0)] 3)) t := fun t k => castTop (ef_5 m q5_0) k
  obtain ⟨T1, h1, X1, e1, E1, A1, D1, -, st1⟩ := newO X0 hx hZ hown (hVV 33 _ rfl) (hVV 34 _ rfl) (hVV 29 _ rfl) e0 (g := (mkF m 31 #[.val (.long q5_0), .second, .val (.int (128 : Int32))] [])) rfl (hb hby d5_31) (by decide) (by decide)
  have g1 := gr_r5
  rw [← g1] at A1 D1 st1
  have gz1 : n0 ≤ r5 := Nat.le_trans Z0 (Nat.le_of_eq g1.symm)
  have sz1 : h0.size ≤ r5 := Nat.le_trans (Keep.refl h0 []).1 (Nat.le_of_eq g1.symm)
  have pre2 : ∀ t, Steps p.tables e below (T1.setTop (mkF m 34 #[.val (.long q5_0), .second, .val (.int (128 : Int32))] [(.ref r5)])) t → Steps p.tables e below (s₁.setTop (entryFrame m #[(.long q5_0)] 3)) t := fun t k => pre0 t (by
    show Steps p.tables e below (s₁.setTop (mkF m 0 #[.val (.long q5_0), .second, .unset] [])) _
    refine XS.sipush X0.here hx rfl (hb hby d5_0) ?_
    show Steps p.tables e below (s₁.setTop (mkF m 3 #[.val (.long q5_0), .second, .unset] [(.int (128 : Int32))])) _
    refine XS.istoreN X0.here hx rfl (hb hby d5_3) rfl (l' := #[.val (.long q5_0), .second, .val (.int (128 : Int32))]) rfl ?_
    show Steps p.tables e below (s₁.setTop (mkF m 4 #[.val (.long q5_0), .second, .val (.int (128 : Int32))] [])) _
    refine XS.lloadN X0.here hx rfl (hb hby d5_4) rfl ?_
    show Steps p.tables e below (s₁.setTop (mkF m 5 #[.val (.long q5_0), .second, .val (.int (128 : Int32))] [(.long q5_0)])) _
    refine X0.ldc2Long hx hown (mvT hZ (hVV 31 _ rfl)) (g := (mkF m 5 #[.val (.long q5_0), .second, .val (.int (128 : Int32))] [(.long q5_0)])) rfl (hb hby d5_5) _ ?_
    show Steps p.tables e below (s₁.setTop (mkF m 8 #[.val (.long q5_0), .second, .val (.int (128 : Int32))] [(.long (-128 : Int64)), (.long q5_0)])) _
    refine XS.lcmp X0.here hx rfl (hb hby d5_8) rfl ?_
    show Steps p.tables e below (s₁.setTop (mkF m 9 #[.val (.long q5_0), .second, .val (.int (128 : Int32))] [(.int (lcmpW q5_0 (-128 : Int64)))])) _
    refine XS.ifNo X0.here hx rfl (hb hby d5_9) rfl ((if0 _ _).trans (flt (fun q => hp5_9 ((lw_lt _ _).mp q))).1) ?_
    show Steps p.tables e below (s₁.setTop (mkF m 12 #[.val (.long q5_0), .second, .val (.int (128 : Int32))] [])) _
    refine XS.lloadN X0.here hx rfl (hb hby d5_12) rfl ?_
    show Steps p.tables e below (s₁.setTop (mkF m 13 #[.val (.long q5_0), .second, .val (.int (128 : Int32))] [(.long q5_0)])) _
    refine X0.ldc2Long hx hown (mvT hZ (hVV 32 _ rfl)) (g := (mkF m 13 #[.val (.long q5_0), .second, .val (.int (128 : Int32))] [(.long q5_0)])) rfl (hb hby d5_13) _ ?_
    show Steps p.tables e below (s₁.setTop (mkF m 16 #[.val (.long q5_0), .second, .val (.int (128 : Int32))] [(.long (127 : Int64)), (.long q5_0)])) _
    refine XS.lcmp X0.here hx rfl (hb hby d5_16) rfl ?_
    show Steps p.tables e below (s₁.setTop (mkF m 17 #[.val (.long q5_0), .second, .val (.int (128 : Int32))] [(.int (lcmpW q5_0 (127 : Int64)))])) _
    refine XS.ifYes X0.here hx rfl (pc0 := 17) (pc' := 31) rfl (hb hby d5_17) rfl ((if0 _ _).trans (tlt ((lw_gt _ _).mpr hp5_17)).2.2.1) (by decide) (by decide) ?_
    show Steps p.tables e below (s₁.setTop (mkF m 31 #[.val (.long q5_0), .second, .val (.int (128 : Int32))] [])) _
    refine st1 _ ?_
    exact k)
  have z3 := Nat.le_trans Z0 E1.1
  have k4 := (Keep.refl h0 []).ext E1
  have f5 : Fld Z h1 r5 "java/lang/Long" "value" "J" (.long (0 : Int64)) := D1 (Or.inr (hVV 47 _ rfl)) (ty := .long) (by decide)
  obtain ⟨_, _, ⟨T6, L6, k6, n6⟩, -, X6, ⟨Lc6, hQ6, l6, y6, z6⟩, st6⟩ := X1.specialBack hx (y := (⟨"java/lang/Long", "<init>", "(J)V"⟩ : MethodName)) rfl hown (mvT hZ (hVV 35 _ rfl)) (mvT hZ (hVV 36 _ rfl)) (mvT hZ (hVV 38 _ rfl)) (by decide) (backOf (W := 1) (rm6 l Z a0 hw [] r5 q5_0 (0 : Int64) h1 n0 z3 A1 f5 gz1) hZ (hVV 38 _ rfl) (hVV 29 _ rfl) (by decide) (by decide)) (g := (mkF m 36 #[.val (.long q5_0), .second, .val (.int (128 : Int32))] [(.long q5_0), (.ref r5), (.ref r5)])) rfl (by rw [hml]; rfl) (Steps.refl _) (a := r5) (argsL := [(.long q5_0)]) (rest := [(.ref r5)]) (lenOf pd_1 rfl) rfl (by show 2 * 0 + _ ≤ _; exact Nat.le_of_eq rfl) (hb hby d5_36) (fun _ _ => ⟨rfl, e1, (by decide : 1 + 0 ≤ _), (by decide : 1 + 0 ≤ _)⟩)
  dsimp only [Pt.U, Pt.locs, Pt.cells, Pt.slots] at X6 l6 y6 z6 st6 hQ6
  subst l6 y6 z6
  obtain ⟨rfl, N6q, K6, r6_0, r6_1⟩ := hQ6
  have N7 := Fr.app N0 N6q
  have pre8 : ∀ t, Steps p.tables e below (T6.setTop (mkF m 39 #[.val (.long q5_0), .second, .val (.int (128 : Int32))] [(.ref r5)])) t → Steps p.tables e below (s₁.setTop (entryFrame m #[(.long q5_0)] 3)) t := fun t k => pre2 t (by
    show Steps p.tables e below (T1.setTop (mkF m 34 #[.val (.long q5_0), .second, .val (.int (128 : Int32))] [(.ref r5)])) _
    refine XS.dup X1.here hx rfl (hb hby d5_34) rfl rfl ?_
    show Steps p.tables e below (T1.setTop (mkF m 35 #[.val (.long q5_0), .second, .val (.int (128 : Int32))] [(.ref r5), (.ref r5)])) _
    refine XS.lloadN X1.here hx rfl (hb hby d5_35) rfl ?_
    show Steps p.tables e below (T1.setTop (mkF m 36 #[.val (.long q5_0), .second, .val (.int (128 : Int32))] [(.long q5_0), (.ref r5), (.ref r5)])) _
    refine st6.trans ?_
    exact k)
  have f9 := A1.keep K6
  have z10 := Nat.le_trans z3 K6.1
  have k11 := k4.trans K6 (allS (Or.inr sz1) all0)
  obtain ⟨fs, hr, hrun, hended, hW, hsame⟩ := X6.leave (v := some (.ref r5)) (fun h => by rw [Bd.returns] at h; cases h)
  refine ⟨_, _, pre8 _ ?_, hrun, hended, _, _, rfl, ?_, ⟨_, rfl⟩, hW, hsame.mono (by decide) (by decide)⟩
  · show Steps p.tables e below (T6.setTop (mkF m 39 #[.val (.long q5_0), .second, .val (.int (128 : Int32))] [(.ref r5)])) _
    jvm_step X6.here [X6.here.top, hx, (hb hby d5_39), X6.method', Bd.returns, Value.isRef, FieldType.isReference]
    first | (intro acts; rw [hr _ acts rfl rfl rfl]) | rw [hr _ _ rfl rfl rfl]
    exact Steps.refl _
  · show Q5_hi Z q5_0 r5 h0 n0 _ T6.heap _
    exact ⟨rfl, N7, k11, r6_0⟩
theorem d5_20 : decode jdk_35_method_24_code 20 = .ok (.getstatic 234, 3) := by decide +kernel
theorem d5_23 : decode jdk_35_method_24_code 23 = .ok (.lload_n 0, 1) := by decide +kernel
theorem d5_24 : decode jdk_35_method_24_code 24 = .ok (.l2i, 1) := by decide +kernel
theorem d5_25 : decode jdk_35_method_24_code 25 = .ok (.sipush 128, 3) := by decide +kernel
theorem d5_28 : decode jdk_35_method_24_code 28 = .ok (.iadd, 1) := by decide +kernel
theorem d5_29 : decode jdk_35_method_24_code 29 = .ok (.aaload, 1) := by decide +kernel
theorem d5_30 : decode jdk_35_method_24_code 30 = .ok (.areturn, 1) := by decide +kernel
def Q5_c (Z : State) (q5_0 : Int64) (w5_cache : Addr) (clc : Cell) (r5 : Addr) (h0 : Heap) (n0 : Nat) (v : Option Value) (h : Heap) (L : List Loc) : Prop := v = some (.ref r5) ∧ Fr n0 L ∧ h = h0
set_option maxRecDepth 65536 in
set_option maxHeartbeats 40000000 in
theorem rm5_c (l : Launch) (Z : State) (a0 : Array Value) (hw : ∀ d ∈ tables_1, d.before a0 Z = true) (ws : List Jvm.Cond) (q5_0 : Int64) (w5_cache : Addr) (clc : Cell) (r5 : Addr) (h0 : Heap) (n0 : Nat) (Z0 : n0 ≤ h0.size) (O0 : Old Z n0 h0) (S_cache : Sta Z Z.heap "java/lang/Long$LongCache" "cache" "[Ljava/lang/Long;" (.ref w5_cache)) (ARC : Arr Z Z.heap w5_cache clc (.object "java/lang/Long")) (hinc : ¬ (((q5_0.toInt32) + (128 : Int32)) < 0 ∨ clc.slots.size ≤ (((q5_0.toInt32) + (128 : Int32))).toNatClampNeg)) (hatc : clc.slots[(((q5_0.toInt32) + (128 : Int32))).toNatClampNeg]? = some (.ref r5)) (hp5_9 : ¬ (q5_0 < (-128 : Int64))) (hp5_17 : ¬ ((127 : Int64) < q5_0)) :
    MetFree l (⟨"java/lang/Long", "valueOf", "(J)Ljava/lang/Long;"⟩ : MethodName) (head1 (Jvm.Cond.code (⟨"java/lang/Long", "valueOf", "(J)Ljava/lang/Long;"⟩ : MethodName) jdk_35_method_24_code 3 (some (.object "java/lang/Long")) :: ws) ({ frames := 0, cells := 0, slots := 0, locals := 0 } : Room)) (fun a U => a = #[(.long q5_0)] ∧ Z.Warmed39 U.vm ∧ U.heap = h0) (fun _ _ _ _ _ => True) (fun _ U o U' => ∃ v L, o = .returned v ∧ Q5_c Z q5_0 w5_cache clc r5 h0 n0 v U'.heap L ∧ FrameEnd U o U' L ({ frames := 0, cells := 0, slots := 0, locals := 0 } : Room).cells ({ frames := 0, cells := 0, slots := 0, locals := 0 } : Room).slots) := by
  refine MetFree.of_bodySF (plainFor_of_name pn_5) hisR ?_
  intro p e s m args below meth c s₁ Bd hml0 hP hK
  obtain ⟨rfl, hZ, hh⟩ := hP
  have hVV : ∀ (i : Nat) (d : Jvm.Cond), tables_1[i]? = some d → d.before a0 Z = true := fun i d h => hw d (List.mem_of_getElem? h)
  have hx := Bd.exec
  have hby := Bd.bytes
  have hml : c.maxLocals = 3 := hml0
  have hown : s.vm.findClass "java/lang/Long" = some m.cls := findClass_of_methodNamed Bd.named
  have hnm := (name_of_methodNamed Bd.named Bd.method).1
  have X0 : Stand p l e ({ frames := 0, cells := 0, slots := 0, locals := 0 } : Room) s m #[(.long q5_0)] below meth c s₁ [] 0 0 := Stand.of_body Bd
  have e0 : s₁.heap = h0 := by rw [← hh, Bd.state]; rfl
  have N0 := Fr.nil n0
  have pre0 : ∀ t, Steps p.tables e below (s₁.setTop (mkF m 0 #[.val (.long q5_0), .second, .unset] [])) t → Steps p.tables e below (s₁.setTop (entryFrame m #[(.long q5_0)] 3)) t := fun t k => castTop (ef_5 m q5_0) k
  obtain ⟨T1, X1, e1, st1⟩ := getS2 X0 hx hZ hown (host := "") (Or.inl (hVV 51 _ rfl)) Via.refl e0 (S_cache.ext O0.2) (g := (mkF m 20 #[.val (.long q5_0), .second, .val (.int (128 : Int32))] [])) rfl (hb hby d5_20)
  have pre2 : ∀ t, Steps p.tables e below (T1.setTop (mkF m 23 #[.val (.long q5_0), .second, .val (.int (128 : Int32))] [(.ref w5_cache)])) t → Steps p.tables e below (s₁.setTop (entryFrame m #[(.long q5_0)] 3)) t := fun t k => pre0 t (by
    show Steps p.tables e below (s₁.setTop (mkF m 0 #[.val (.long q5_0), .second, .unset] [])) _
    refine XS.sipush X0.here hx rfl (hb hby d5_0) ?_
    show Steps p.tables e below (s₁.setTop (mkF m 3 #[.val (.long q5_0), .second, .unset] [(.int (128 : Int32))])) _
    refine XS.istoreN X0.here hx rfl (hb hby d5_3) rfl (l' := #[.val (.long q5_0), .second, .val (.int (128 : Int32))]) rfl ?_
    show Steps p.tables e below (s₁.setTop (mkF m 4 #[.val (.long q5_0), .second, .val (.int (128 : Int32))] [])) _
    refine XS.lloadN X0.here hx rfl (hb hby d5_4) rfl ?_
    show Steps p.tables e below (s₁.setTop (mkF m 5 #[.val (.long q5_0), .second, .val (.int (128 : Int32))] [(.long q5_0)])) _
    refine X0.ldc2Long hx hown (mvT hZ (hVV 31 _ rfl)) (g := (mkF m 5 #[.val (.long q5_0), .second, .val (.int (128 : Int32))] [(.long q5_0)])) rfl (hb hby d5_5) _ ?_
    show Steps p.tables e below (s₁.setTop (mkF m 8 #[.val (.long q5_0), .second, .val (.int (128 : Int32))] [(.long (-128 : Int64)), (.long q5_0)])) _
    refine XS.lcmp X0.here hx rfl (hb hby d5_8) rfl ?_
    show Steps p.tables e below (s₁.setTop (mkF m 9 #[.val (.long q5_0), .second, .val (.int (128 : Int32))] [(.int (lcmpW q5_0 (-128 : Int64)))])) _
    refine XS.ifNo X0.here hx rfl (hb hby d5_9) rfl ((if0 _ _).trans (flt (fun q => hp5_9 ((lw_lt _ _).mp q))).1) ?_
    show Steps p.tables e below (s₁.setTop (mkF m 12 #[.val (.long q5_0), .second, .val (.int (128 : Int32))] [])) _
    refine XS.lloadN X0.here hx rfl (hb hby d5_12) rfl ?_
    show Steps p.tables e below (s₁.setTop (mkF m 13 #[.val (.long q5_0), .second, .val (.int (128 : Int32))] [(.long q5_0)])) _
    refine X0.ldc2Long hx hown (mvT hZ (hVV 32 _ rfl)) (g := (mkF m 13 #[.val (.long q5_0), .second, .val (.int (128 : Int32))] [(.long q5_0)])) rfl (hb hby d5_13) _ ?_
    show Steps p.tables e below (s₁.setTop (mkF m 16 #[.val (.long q5_0), .second, .val (.int (128 : Int32))] [(.long (127 : Int64)), (.long q5_0)])) _
    refine XS.lcmp X0.here hx rfl (hb hby d5_16) rfl ?_
    show Steps p.tables e below (s₁.setTop (mkF m 17 #[.val (.long q5_0), .second, .val (.int (128 : Int32))] [(.int (lcmpW q5_0 (127 : Int64)))])) _
    refine XS.ifNo X0.here hx rfl (hb hby d5_17) rfl ((if0 _ _).trans (flt (fun q => hp5_17 ((lw_gt _ _).mp q))).2.2.1) ?_
    show Steps p.tables e below (s₁.setTop (mkF m 20 #[.val (.long q5_0), .second, .val (.int (128 : Int32))] [])) _
    refine st1 _ ?_
    exact k)
  have Ar3 := Arr.ext O0.2 ARC
  obtain ⟨fs, hr, hrun, hended, hW, hsame⟩ := X1.leave (v := some (.ref r5)) (fun h => by rw [Bd.returns] at h; cases h)
  refine ⟨_, _, pre2 _ ?_, hrun, hended, _, _, rfl, ?_, ⟨_, rfl⟩, hW, hsame.mono (by decide) (by decide)⟩
  · show Steps p.tables e below (T1.setTop (mkF m 23 #[.val (.long q5_0), .second, .val (.int (128 : Int32))] [(.ref w5_cache)])) _
    refine XS.lloadN X1.here hx rfl (hb hby d5_23) rfl ?_
    show Steps p.tables e below (T1.setTop (mkF m 24 #[.val (.long q5_0), .second, .val (.int (128 : Int32))] [(.long q5_0), (.ref w5_cache)])) _
    refine XS.l2i X1.here hx rfl (hb hby d5_24) rfl ?_
    show Steps p.tables e below (T1.setTop (mkF m 25 #[.val (.long q5_0), .second, .val (.int (128 : Int32))] [(.int (q5_0.toInt32)), (.ref w5_cache)])) _
    refine XS.sipush X1.here hx rfl (hb hby d5_25) ?_
    show Steps p.tables e below (T1.setTop (mkF m 28 #[.val (.long q5_0), .second, .val (.int (128 : Int32))] [(.int (128 : Int32)), (.int (q5_0.toInt32)), (.ref w5_cache)])) _
    refine XS.iadd X1.here hx rfl (hb hby d5_28) rfl ?_
    show Steps p.tables e below (T1.setTop (mkF m 29 #[.val (.long q5_0), .second, .val (.int (128 : Int32))] [(.int ((q5_0.toInt32) + (128 : Int32))), (.ref w5_cache)])) _
    refine X1.aaload hx (j := ((q5_0.toInt32) + (128 : Int32))) (v := .ref r5) (by rw [e1]; exact Ar3.1) (State.isArrayOf_alike hZ.alike Ar3.2.1) rfl Ar3.2.2 hinc hatc (g := (mkF m 29 #[.val (.long q5_0), .second, .val (.int (128 : Int32))] [(.int ((q5_0.toInt32) + (128 : Int32))), (.ref w5_cache)])) rfl rfl (hb hby d5_29) _ ?_
    show Steps p.tables e below (T1.setTop (mkF m 30 #[.val (.long q5_0), .second, .val (.int (128 : Int32))] [(.ref r5)])) _
    jvm_step X1.here [X1.here.top, hx, (hb hby d5_30), X1.method', Bd.returns, Value.isRef, FieldType.isReference]
    first | (intro acts; rw [hr _ acts rfl rfl rfl]) | rw [hr _ _ rfl rfl rfl]
    exact Steps.refl _
  · show Q5_c Z q5_0 w5_cache clc r5 h0 n0 _ T1.heap _
    rw [e1]
    exact ⟨rfl, N0, rfl⟩
theorem pd_2 : parseMethodDescriptor "(JJJ)V" = some ⟨[.long, .long, .long], none⟩ := by decide +kernel
theorem pd_3 : parseMethodDescriptor "(Ljava/lang/Object;)Z" = some ⟨[(.object "java/lang/Object")], some .boolean⟩ := by decide +kernel
theorem pd_4 : parseMethodDescriptor "(J)Ljava/lang/Long;" = some ⟨[.long], some (.object "java/lang/Long")⟩ := by decide +kernel
theorem pn_0 : plainName "com/example/nearlane/nearlane/model/ResourcesEqualsPinLaw" = true := by first | (simp [plainName, overriddenIn]; done) | decide +kernel
theorem ef_0 (m : MethodId) (x0 : Int64) (x1 : Int64) (x2 : Int64) (x3 : Int64) (x4 : Int64) (x5 : Int32) : entryFrame m #[(.long x0), (.long x1), (.long x2), (.long x3), (.long x4), (.int x5)] maxLocals = mkF m 0 #[.val (.long x0), .second, .val (.long x1), .second, .val (.long x2), .second, .val (.long x3), .second, .val (.long x4), .second, .val (.int x5), .unset, .unset, .unset, .unset, .unset, .unset, .unset, .unset, .unset, .unset] [] := by first | (simp [entryFrame, mkF, argsToLocals, Value.category, maxLocals]; done) | rfl
def Q0 (Z : State) (q0_0 : Int64) (q0_1 : Int64) (q0_2 : Int64) (q0_3 : Int64) (q0_4 : Int64) (p0_5 : Int32) (w0_cache : Addr) (clc : Cell) (h0 : Heap) (n0 : Nat) (v : Option Value) (h : Heap) (L : List Loc) : Prop := v = some (.int (1 : Int32)) ∧ Fr n0 L
set_option maxRecDepth 65536 in
set_option maxHeartbeats 40000000 in
theorem rm0 (l : Launch) (Z : State) (a0 : Array Value) (hw : ∀ d ∈ tables_1, d.before a0 Z = true) (ws : List Jvm.Cond) (q0_0 : Int64) (q0_1 : Int64) (q0_2 : Int64) (q0_3 : Int64) (q0_4 : Int64) (p0_5 : Int32) (w0_cache : Addr) (clc : Cell) (h0 : Heap) (n0 : Nat) (Z0 : n0 ≤ h0.size) (O0 : Old Z n0 h0) (S_cache : Sta Z Z.heap "java/lang/Long$LongCache" "cache" "[Ljava/lang/Long;" (.ref w0_cache)) (ARC : Arr Z Z.heap w0_cache clc (.object "java/lang/Long")) (HSZ : clc.slots.size = 256) (HALL : ∀ j : Int32, ¬ (j < 0 ∨ clc.slots.size ≤ j.toNatClampNeg) → ∃ r, clc.slots[j.toNatClampNeg]? = some (.ref r) ∧ Exa Z Z.heap r "java/lang/Long") :
    MetFree l x (head1 (Jvm.Cond.code x code maxLocals ret :: ws) room_1) (fun a U => a = #[(.long q0_0), (.long q0_1), (.long q0_2), (.long q0_3), (.long q0_4), (.int p0_5)] ∧ Z.Warmed39 U.vm ∧ U.heap = h0) (fun _ _ _ _ _ => True) (fun _ U o U' => ∃ v L, o = .returned v ∧ Q0 Z q0_0 q0_1 q0_2 q0_3 q0_4 p0_5 w0_cache clc h0 n0 v U'.heap L ∧ FrameEnd U o U' L room_1.cells room_1.slots) := by
  refine MetFree.of_bodySF (plainFor_of_name pn_0) hisR ?_
  intro p e s m args below meth c s₁ Bd hml0 hP hK
  obtain ⟨rfl, hZ, hh⟩ := hP
  have hVV : ∀ (i : Nat) (d : Jvm.Cond), tables_1[i]? = some d → d.before a0 Z = true := fun i d h => hw d (List.mem_of_getElem? h)
  have hx := Bd.exec
  have hby := Bd.bytes
  have hml : c.maxLocals = 21 := hml0
  have hown : s.vm.findClass "com/example/nearlane/nearlane/model/ResourcesEqualsPinLaw" = some m.cls := findClass_of_methodNamed Bd.named
  have hnm := (name_of_methodNamed Bd.named Bd.method).1
  have X0 : Stand p l e room_1 s m #[(.long q0_0), (.long q0_1), (.long q0_2), (.long q0_3), (.long q0_4), (.int p0_5)] below meth c s₁ [] 0 0 := Stand.of_body Bd
  have e0 : s₁.heap = h0 := by rw [← hh, Bd.state]; rfl
  have N0 := Fr.nil n0
  have pre0 : ∀ t, Steps p.tables e below (s₁.setTop (mkF m 0 #[.val (.long q0_0), .second, .val (.long q0_1), .second, .val (.long q0_2), .second, .val (.long q0_3), .second, .val (.long q0_4), .second, .val (.int p0_5), .unset, .unset, .unset, .unset, .unset, .unset, .unset, .unset, .unset, .unset] [])) t → Steps p.tables e below (s₁.setTop (entryFrame m #[(.long q0_0), (.long q0_1), (.long q0_2), (.long q0_3), (.long q0_4), (.int p0_5)] maxLocals)) t := fun t k => castTop (ef_0 m q0_0 q0_1 q0_2 q0_3 q0_4 p0_5) k
  obtain ⟨T1, h1, X1, e1, E1, A1, D1, -, st1⟩ := newO X0 hx hZ hown (hVV 0 _ rfl) (hVV 1 _ rfl) (hVV 2 _ rfl) e0 (g := (mkF m 0 #[.val (.long q0_0), .second, .val (.long q0_1), .second, .val (.long q0_2), .second, .val (.long q0_3), .second, .val (.long q0_4), .second, .val (.int p0_5), .unset, .unset, .unset, .unset, .unset, .unset, .unset, .unset, .unset, .unset] [])) rfl (hb hby at_0) (by decide) (by decide)
  obtain ⟨b1, g1⟩ : ∃ z, z = h0.size := ⟨_, rfl⟩
  rw [← g1] at A1 D1 st1
  have gz1 : n0 ≤ b1 := Nat.le_trans Z0 (Nat.le_of_eq g1.symm)
  have pre2 : ∀ t, Steps p.tables e below (T1.setTop (mkF m 3 #[.val (.long q0_0), .second, .val (.long q0_1), .second, .val (.long q0_2), .second, .val (.long q0_3), .second, .val (.long q0_4), .second, .val (.int p0_5), .unset, .unset, .unset, .unset, .unset, .unset, .unset, .unset, .unset, .unset] [(.ref b1)])) t → Steps p.tables e below (s₁.setTop (entryFrame m #[(.long q0_0), (.long q0_1), (.long q0_2), (.long q0_3), (.long q0_4), (.int p0_5)] maxLocals)) t := fun t k => pre0 t (by
    show Steps p.tables e below (s₁.setTop (mkF m 0 #[.val (.long q0_0), .second, .val (.long q0_1), .second, .val (.long q0_2), .second, .val (.long q0_3), .second, .val (.long q0_4), .second, .val (.int p0_5), .unset, .unset, .unset, .unset, .unset, .unset, .unset, .unset, .unset, .unset] [])) _
    refine st1 _ ?_
    exact k)
  have z3 := Nat.le_trans Z0 E1.1
  have o4 := O0.ext E1
  have f5 : Fld Z h1 b1 "com/example/nearlane/nearlane/model/Resources" "cpuMilli" "J" (.long (0 : Int64)) := D1 (Or.inr (hVV 15 _ rfl)) (ty := .long) (by decide)
  have f6 : Fld Z h1 b1 "com/example/nearlane/nearlane/model/Resources" "memoryMib" "J" (.long (0 : Int64)) := D1 (Or.inr (hVV 17 _ rfl)) (ty := .long) (by decide)
  have f7 : Fld Z h1 b1 "com/example/nearlane/nearlane/model/Resources" "gpuMilli" "J" (.long (0 : Int64)) := D1 (Or.inr (hVV 19 _ rfl)) (ty := .long) (by decide)
  obtain ⟨_, _, ⟨T8, L8, k8, n8⟩, -, X8, ⟨Lc8, hQ8, l8, y8, z8⟩, st8⟩ := X1.specialBack hx (y := (⟨"com/example/nearlane/nearlane/model/Resources", "<init>", "(JJJ)V"⟩ : MethodName)) rfl hown (mvT hZ (hVV 3 _ rfl)) (mvT hZ (hVV 4 _ rfl)) (mvT hZ (hVV 5 _ rfl)) (by decide) (backOf (W := 1) (rm1 l Z a0 hw [] b1 q0_0 q0_1 q0_2 (0 : Int64) (0 : Int64) (0 : Int64) h1 n0 z3 A1 f5 f6 f7 gz1) hZ (hVV 5 _ rfl) (hVV 2 _ rfl) (by decide) (by decide)) (g := (mkF m 8 #[.val (.long q0_0), .second, .val (.long q0_1), .second, .val (.long q0_2), .second, .val (.long q0_3), .second, .val (.long q0_4), .second, .val (.int p0_5), .unset, .unset, .unset, .unset, .unset, .unset, .unset, .unset, .unset, .unset] [(.long q0_2), (.long q0_1), (.long q0_0), (.ref b1), (.ref b1)])) rfl (by rw [hml]; rfl) (Steps.refl _) (a := b1) (argsL := [(.long q0_0), (.long q0_1), (.long q0_2)]) (rest := [(.ref b1)]) (lenOf pd_2 rfl) rfl (by show 2 * 0 + _ ≤ _; exact Nat.le_of_eq rfl) (hb hby at_8) (fun _ _ => ⟨rfl, e1, (by decide : 1 + 0 ≤ _), (by decide : 3 + 0 ≤ _)⟩)
  dsimp only [Pt.U, Pt.locs, Pt.cells, Pt.slots] at X8 l8 y8 z8 st8 hQ8
  subst l8 y8 z8
  obtain ⟨rfl, N8q, K8, r8_0, r8_1, r8_2, r8_3⟩ := hQ8
  have N9 := Fr.app N0 N8q
  have pre10 : ∀ t, Steps p.tables e below (T8.setTop (mkF m 11 #[.val (.long q0_0), .second, .val (.long q0_1), .second, .val (.long q0_2), .second, .val (.long q0_3), .second, .val (.long q0_4), .second, .val (.int p0_5), .unset, .unset, .unset, .unset, .unset, .unset, .unset, .unset, .unset, .unset] [(.ref b1)])) t → Steps p.tables e below (s₁.setTop (entryFrame m #[(.long q0_0), (.long q0_1), (.long q0_2), (.long q0_3), (.long q0_4), (.int p0_5)] maxLocals)) t := fun t k => pre2 t (by
    show Steps p.tables e below (T1.setTop (mkF m 3 #[.val (.long q0_0), .second, .val (.long q0_1), .second, .val (.long q0_2), .second, .val (.long q0_3), .second, .val (.long q0_4), .second, .val (.int p0_5), .unset, .unset, .unset, .unset, .unset, .unset, .unset, .unset, .unset, .unset] [(.ref b1)])) _
    refine XS.dup X1.here hx rfl (hb hby at_3) rfl rfl ?_
    show Steps p.tables e below (T1.setTop (mkF m 4 #[.val (.long q0_0), .second, .val (.long q0_1), .second, .val (.long q0_2), .second, .val (.long q0_3), .second, .val (.long q0_4), .second, .val (.int p0_5), .unset, .unset, .unset, .unset, .unset, .unset, .unset, .unset, .unset, .unset] [(.ref b1), (.ref b1)])) _
    refine XS.lloadN X1.here hx rfl (hb hby at_4) rfl ?_
    show Steps p.tables e below (T1.setTop (mkF m 5 #[.val (.long q0_0), .second, .val (.long q0_1), .second, .val (.long q0_2), .second, .val (.long q0_3), .second, .val (.long q0_4), .second, .val (.int p0_5), .unset, .unset, .unset, .unset, .unset, .unset, .unset, .unset, .unset, .unset] [(.long q0_0), (.ref b1), (.ref b1)])) _
    refine XS.lloadN X1.here hx rfl (hb hby at_5) rfl ?_
    show Steps p.tables e below (T1.setTop (mkF m 6 #[.val (.long q0_0), .second, .val (.long q0_1), .second, .val (.long q0_2), .second, .val (.long q0_3), .second, .val (.long q0_4), .second, .val (.int p0_5), .unset, .unset, .unset, .unset, .unset, .unset, .unset, .unset, .unset, .unset] [(.long q0_1), (.long q0_0), (.ref b1), (.ref b1)])) _
    refine XS.lload X1.here hx rfl (hb hby at_6) rfl ?_
    show Steps p.tables e below (T1.setTop (mkF m 8 #[.val (.long q0_0), .second, .val (.long q0_1), .second, .val (.long q0_2), .second, .val (.long q0_3), .second, .val (.long q0_4), .second, .val (.int p0_5), .unset, .unset, .unset, .unset, .unset, .unset, .unset, .unset, .unset, .unset] [(.long q0_2), (.long q0_1), (.long q0_0), (.ref b1), (.ref b1)])) _
    refine st8.trans ?_
    exact k)
  have f11 := A1.keep K8
  have z12 := Nat.le_trans z3 K8.1
  have o13 := o4.keep K8 (allS gz1 all0)
  have pre15 : ∀ t, Steps p.tables e below (T8.setTop (mkF m 17 #[.val (.long q0_0), .second, .val (.long q0_1), .second, .val (.long q0_2), .second, .val (.long q0_3), .second, .val (.long q0_4), .second, .val (.int p0_5), .val (.ref b1), .unset, .unset, .unset, .unset, .unset, .unset, .unset, .unset, .unset] [(.int (p0_5 &&& (1 : Int32)))])) t → Steps p.tables e below (s₁.setTop (entryFrame m #[(.long q0_0), (.long q0_1), (.long q0_2), (.long q0_3), (.long q0_4), (.int p0_5)] maxLocals)) t := fun t k => pre10 t (by
    show Steps p.tables e below (T8.setTop (mkF m 11 #[.val (.long q0_0), .second, .val (.long q0_1), .second, .val (.long q0_2), .second, .val (.long q0_3), .second, .val (.long q0_4), .second, .val (.int p0_5), .unset, .unset, .unset, .unset, .unset, .unset, .unset, .unset, .unset, .unset] [(.ref b1)])) _
    refine XS.astore X8.here hx rfl (hb hby at_11) rfl rfl (l' := #[.val (.long q0_0), .second, .val (.long q0_1), .second, .val (.long q0_2), .second, .val (.long q0_3), .second, .val (.long q0_4), .second, .val (.int p0_5), .val (.ref b1), .unset, .unset, .unset, .unset, .unset, .unset, .unset, .unset, .unset]) rfl ?_
    show Steps p.tables e below (T8.setTop (mkF m 13 #[.val (.long q0_0), .second, .val (.long q0_1), .second, .val (.long q0_2), .second, .val (.long q0_3), .second, .val (.long q0_4), .second, .val (.int p0_5), .val (.ref b1), .unset, .unset, .unset, .unset, .unset, .unset, .unset, .unset, .unset] [])) _
    refine XS.iload X8.here hx rfl (hb hby at_13) rfl ?_
    show Steps p.tables e below (T8.setTop (mkF m 15 #[.val (.long q0_0), .second, .val (.long q0_1), .second, .val (.long q0_2), .second, .val (.long q0_3), .second, .val (.long q0_4), .second, .val (.int p0_5), .val (.ref b1), .unset, .unset, .unset, .unset, .unset, .unset, .unset, .unset, .unset] [(.int p0_5)])) _
    refine XS.iconst X8.here hx rfl (hb hby at_15) ?_
    show Steps p.tables e below (T8.setTop (mkF m 16 #[.val (.long q0_0), .second, .val (.long q0_1), .second, .val (.long q0_2), .second, .val (.long q0_3), .second, .val (.long q0_4), .second, .val (.int p0_5), .val (.ref b1), .unset, .unset, .unset, .unset, .unset, .unset, .unset, .unset, .unset] [(.int (1 : Int32)), (.int p0_5)])) _
    refine XS.iand X8.here hx rfl (hb hby at_16) rfl ?_
    exact k)
  have pre16 : ∀ t, Steps p.tables e below (T8.setTop (mkF m 26 #[.val (.long q0_0), .second, .val (.long q0_1), .second, .val (.long q0_2), .second, .val (.long q0_3), .second, .val (.long q0_4), .second, .val (.int p0_5), .val (.ref b1), .unset, .unset, .unset, .unset, .unset, .unset, .unset, .unset, .unset] [(.long (if (p0_5 &&& (1 : Int32)) = (0 : Int32) then q0_0 else q0_3))])) t → Steps p.tables e below (s₁.setTop (entryFrame m #[(.long q0_0), (.long q0_1), (.long q0_2), (.long q0_3), (.long q0_4), (.int p0_5)] maxLocals)) t := fun t k => pre15 t (by
    by_cases hc14 : (p0_5 &&& (1 : Int32)) = (0 : Int32)
    · show Steps p.tables e below (T8.setTop (mkF m 17 #[.val (.long q0_0), .second, .val (.long q0_1), .second, .val (.long q0_2), .second, .val (.long q0_3), .second, .val (.long q0_4), .second, .val (.int p0_5), .val (.ref b1), .unset, .unset, .unset, .unset, .unset, .unset, .unset, .unset, .unset] [(.int (p0_5 &&& (1 : Int32)))])) _
      refine XS.ifYes X8.here hx rfl (pc0 := 17) (pc' := 25) rfl (hb hby at_17) rfl ((if0 _ _).trans (teq hc14).1) (by decide) (by decide) ?_
      show Steps p.tables e below (T8.setTop (mkF m 25 #[.val (.long q0_0), .second, .val (.long q0_1), .second, .val (.long q0_2), .second, .val (.long q0_3), .second, .val (.long q0_4), .second, .val (.int p0_5), .val (.ref b1), .unset, .unset, .unset, .unset, .unset, .unset, .unset, .unset, .unset] [])) _
      refine XS.lloadN X8.here hx rfl (hb hby at_25) rfl ?_
      have q17 : (if (p0_5 &&& (1 : Int32)) = (0 : Int32) then q0_0 else q0_3) = q0_0 := (if_pos hc14)
      exact castTop (g := (mkF m 26 #[.val (.long q0_0), .second, .val (.long q0_1), .second, .val (.long q0_2), .second, .val (.long q0_3), .second, .val (.long q0_4), .second, .val (.int p0_5), .val (.ref b1), .unset, .unset, .unset, .unset, .unset, .unset, .unset, .unset, .unset] [(.long q0_0)])) (g' := (mkF m 26 #[.val (.long q0_0), .second, .val (.long q0_1), .second, .val (.long q0_2), .second, .val (.long q0_3), .second, .val (.long q0_4), .second, .val (.int p0_5), .val (.ref b1), .unset, .unset, .unset, .unset, .unset, .unset, .unset, .unset, .unset] [(.long (if (p0_5 &&& (1 : Int32)) = (0 : Int32) then q0_0 else q0_3))])) (by simp only [q17]) k
    · show Steps p.tables e below (T8.setTop (mkF m 17 #[.val (.long q0_0), .second, .val (.long q0_1), .second, .val (.long q0_2), .second, .val (.long q0_3), .second, .val (.long q0_4), .second, .val (.int p0_5), .val (.ref b1), .unset, .unset, .unset, .unset, .unset, .unset, .unset, .unset, .unset] [(.int (p0_5 &&& (1 : Int32)))])) _
      refine XS.ifNo X8.here hx rfl (hb hby at_17) rfl ((if0 _ _).trans (feq hc14).1) ?_
      show Steps p.tables e below (T8.setTop (mkF m 20 #[.val (.long q0_0), .second, .val (.long q0_1), .second, .val (.long q0_2), .second, .val (.long q0_3), .second, .val (.long q0_4), .second, .val (.int p0_5), .val (.ref b1), .unset, .unset, .unset, .unset, .unset, .unset, .unset, .unset, .unset] [])) _
      refine XS.lload X8.here hx rfl (hb hby at_20) rfl ?_
      show Steps p.tables e below (T8.setTop (mkF m 22 #[.val (.long q0_0), .second, .val (.long q0_1), .second, .val (.long q0_2), .second, .val (.long q0_3), .second, .val (.long q0_4), .second, .val (.int p0_5), .val (.ref b1), .unset, .unset, .unset, .unset, .unset, .unset, .unset, .unset, .unset] [(.long q0_3)])) _
      refine XS.goto X8.here hx rfl (pc0 := 22) (pc' := 26) rfl (hb hby at_22) (by decide) (by decide) ?_
      have q18 : (if (p0_5 &&& (1 : Int32)) = (0 : Int32) then q0_0 else q0_3) = q0_3 := (if_neg hc14)
      exact castTop (g := (mkF m 26 #[.val (.long q0_0), .second, .val (.long q0_1), .second, .val (.long q0_2), .second, .val (.long q0_3), .second, .val (.long q0_4), .second, .val (.int p0_5), .val (.ref b1), .unset, .unset, .unset, .unset, .unset, .unset, .unset, .unset, .unset] [(.long q0_3)])) (g' := (mkF m 26 #[.val (.long q0_0), .second, .val (.long q0_1), .second, .val (.long q0_2), .second, .val (.long q0_3), .second, .val (.long q0_4), .second, .val (.int p0_5), .val (.ref b1), .unset, .unset, .unset, .unset, .unset, .unset, .unset, .unset, .unset] [(.long (if (p0_5 &&& (1 : Int32)) = (0 : Int32) then q0_0 else q0_3))])) (by simp only [q18]) k)
  have pre20 : ∀ t, Steps p.tables e below (T8.setTop (mkF m 32 #[.val (.long q0_0), .second, .val (.long q0_1), .second, .val (.long q0_2), .second, .val (.long q0_3), .second, .val (.long q0_4), .second, .val (.int p0_5), .val (.ref b1), .val (.long (if (p0_5 &&& (1 : Int32)) = (0 : Int32) then q0_0 else q0_3)), .second, .unset, .unset, .unset, .unset, .unset, .unset, .unset] [(.int (p0_5 &&& (2 : Int32)))])) t → Steps p.tables e below (s₁.setTop (entryFrame m #[(.long q0_0), (.long q0_1), (.long q0_2), (.long q0_3), (.long q0_4), (.int p0_5)] maxLocals)) t := fun t k => pre16 t (by
    show Steps p.tables e below (T8.setTop (mkF m 26 #[.val (.long q0_0), .second, .val (.long q0_1), .second, .val (.long q0_2), .second, .val (.long q0_3), .second, .val (.long q0_4), .second, .val (.int p0_5), .val (.ref b1), .unset, .unset, .unset, .unset, .unset, .unset, .unset, .unset, .unset] [(.long (if (p0_5 &&& (1 : Int32)) = (0 : Int32) then q0_0 else q0_3))])) _
    refine XS.lstore X8.here hx rfl (hb hby at_26) rfl (l' := #[.val (.long q0_0), .second, .val (.long q0_1), .second, .val (.long q0_2), .second, .val (.long q0_3), .second, .val (.long q0_4), .second, .val (.int p0_5), .val (.ref b1), .val (.long (if (p0_5 &&& (1 : Int32)) = (0 : Int32) then q0_0 else q0_3)), .second, .unset, .unset, .unset, .unset, .unset, .unset, .unset]) rfl ?_
    show Steps p.tables e below (T8.setTop (mkF m 28 #[.val (.long q0_0), .second, .val (.long q0_1), .second, .val (.long q0_2), .second, .val (.long q0_3), .second, .val (.long q0_4), .second, .val (.int p0_5), .val (.ref b1), .val (.long (if (p0_5 &&& (1 : Int32)) = (0 : Int32) then q0_0 else q0_3)), .second, .unset, .unset, .unset, .unset, .unset, .unset, .unset] [])) _
    refine XS.iload X8.here hx rfl (hb hby at_28) rfl ?_
    show Steps p.tables e below (T8.setTop (mkF m 30 #[.val (.long q0_0), .second, .val (.long q0_1), .second, .val (.long q0_2), .second, .val (.long q0_3), .second, .val (.long q0_4), .second, .val (.int p0_5), .val (.ref b1), .val (.long (if (p0_5 &&& (1 : Int32)) = (0 : Int32) then q0_0 else q0_3)), .second, .unset, .unset, .unset, .unset, .unset, .unset, .unset] [(.int p0_5)])) _
    refine XS.iconst X8.here hx rfl (hb hby at_30) ?_
    show Steps p.tables e below (T8.setTop (mkF m 31 #[.val (.long q0_0), .second, .val (.long q0_1), .second, .val (.long q0_2), .second, .val (.long q0_3), .second, .val (.long q0_4), .second, .val (.int p0_5), .val (.ref b1), .val (.long (if (p0_5 &&& (1 : Int32)) = (0 : Int32) then q0_0 else q0_3)), .second, .unset, .unset, .unset, .unset, .unset, .unset, .unset] [(.int (2 : Int32)), (.int p0_5)])) _
    refine XS.iand X8.here hx rfl (hb hby at_31) rfl ?_
    exact k)
  have pre21 : ∀ t, Steps p.tables e below (T8.setTop (mkF m 41 #[.val (.long q0_0), .second, .val (.long q0_1), .second, .val (.long q0_2), .second, .val (.long q0_3), .second, .val (.long q0_4), .second, .val (.int p0_5), .val (.ref b1), .val (.long (if (p0_5 &&& (1 : Int32)) = (0 : Int32) then q0_0 else q0_3)), .second, .unset, .unset, .unset, .unset, .unset, .unset, .unset] [(.long (if (p0_5 &&& (2 : Int32)) = (0 : Int32) then q0_1 else q0_4))])) t → Steps p.tables e below (s₁.setTop (entryFrame m #[(.long q0_0), (.long q0_1), (.long q0_2), (.long q0_3), (.long q0_4), (.int p0_5)] maxLocals)) t := fun t k => pre20 t (by
    by_cases hc19 : (p0_5 &&& (2 : Int32)) = (0 : Int32)
    · show Steps p.tables e below (T8.setTop (mkF m 32 #[.val (.long q0_0), .second, .val (.long q0_1), .second, .val (.long q0_2), .second, .val (.long q0_3), .second, .val (.long q0_4), .second, .val (.int p0_5), .val (.ref b1), .val (.long (if (p0_5 &&& (1 : Int32)) = (0 : Int32) then q0_0 else q0_3)), .second, .unset, .unset, .unset, .unset, .unset, .unset, .unset] [(.int (p0_5 &&& (2 : Int32)))])) _
      refine XS.ifYes X8.here hx rfl (pc0 := 32) (pc' := 40) rfl (hb hby at_32) rfl ((if0 _ _).trans (teq hc19).1) (by decide) (by decide) ?_
      show Steps p.tables e below (T8.setTop (mkF m 40 #[.val (.long q0_0), .second, .val (.long q0_1), .second, .val (.long q0_2), .second, .val (.long q0_3), .second, .val (.long q0_4), .second, .val (.int p0_5), .val (.ref b1), .val (.long (if (p0_5 &&& (1 : Int32)) = (0 : Int32) then q0_0 else q0_3)), .second, .unset, .unset, .unset, .unset, .unset, .unset, .unset] [])) _
      refine XS.lloadN X8.here hx rfl (hb hby at_40) rfl ?_
      have q22 : (if (p0_5 &&& (2 : Int32)) = (0 : Int32) then q0_1 else q0_4) = q0_1 := (if_pos hc19)
      exact castTop (g := (mkF m 41 #[.val (.long q0_0), .second, .val (.long q0_1), .second, .val (.long q0_2), .second, .val (.long q0_3), .second, .val (.long q0_4), .second, .val (.int p0_5), .val (.ref b1), .val (.long (if (p0_5 &&& (1 : Int32)) = (0 : Int32) then q0_0 else q0_3)), .second, .unset, .unset, .unset, .unset, .unset, .unset, .unset] [(.long q0_1)])) (g' := (mkF m 41 #[.val (.long q0_0), .second, .val (.long q0_1), .second, .val (.long q0_2), .second, .val (.long q0_3), .second, .val (.long q0_4), .second, .val (.int p0_5), .val (.ref b1), .val (.long (if (p0_5 &&& (1 : Int32)) = (0 : Int32) then q0_0 else q0_3)), .second, .unset, .unset, .unset, .unset, .unset, .unset, .unset] [(.long (if (p0_5 &&& (2 : Int32)) = (0 : Int32) then q0_1 else q0_4))])) (by simp only [q22]) k
    · show Steps p.tables e below (T8.setTop (mkF m 32 #[.val (.long q0_0), .second, .val (.long q0_1), .second, .val (.long q0_2), .second, .val (.long q0_3), .second, .val (.long q0_4), .second, .val (.int p0_5), .val (.ref b1), .val (.long (if (p0_5 &&& (1 : Int32)) = (0 : Int32) then q0_0 else q0_3)), .second, .unset, .unset, .unset, .unset, .unset, .unset, .unset] [(.int (p0_5 &&& (2 : Int32)))])) _
      refine XS.ifNo X8.here hx rfl (hb hby at_32) rfl ((if0 _ _).trans (feq hc19).1) ?_
      show Steps p.tables e below (T8.setTop (mkF m 35 #[.val (.long q0_0), .second, .val (.long q0_1), .second, .val (.long q0_2), .second, .val (.long q0_3), .second, .val (.long q0_4), .second, .val (.int p0_5), .val (.ref b1), .val (.long (if (p0_5 &&& (1 : Int32)) = (0 : Int32) then q0_0 else q0_3)), .second, .unset, .unset, .unset, .unset, .unset, .unset, .unset] [])) _
      refine XS.lload X8.here hx rfl (hb hby at_35) rfl ?_
      show Steps p.tables e below (T8.setTop (mkF m 37 #[.val (.long q0_0), .second, .val (.long q0_1), .second, .val (.long q0_2), .second, .val (.long q0_3), .second, .val (.long q0_4), .second, .val (.int p0_5), .val (.ref b1), .val (.long (if (p0_5 &&& (1 : Int32)) = (0 : Int32) then q0_0 else q0_3)), .second, .unset, .unset, .unset, .unset, .unset, .unset, .unset] [(.long q0_4)])) _
      refine XS.goto X8.here hx rfl (pc0 := 37) (pc' := 41) rfl (hb hby at_37) (by decide) (by decide) ?_
      have q23 : (if (p0_5 &&& (2 : Int32)) = (0 : Int32) then q0_1 else q0_4) = q0_4 := (if_neg hc19)
      exact castTop (g := (mkF m 41 #[.val (.long q0_0), .second, .val (.long q0_1), .second, .val (.long q0_2), .second, .val (.long q0_3), .second, .val (.long q0_4), .second, .val (.int p0_5), .val (.ref b1), .val (.long (if (p0_5 &&& (1 : Int32)) = (0 : Int32) then q0_0 else q0_3)), .second, .unset, .unset, .unset, .unset, .unset, .unset, .unset] [(.long q0_4)])) (g' := (mkF m 41 #[.val (.long q0_0), .second, .val (.long q0_1), .second, .val (.long q0_2), .second, .val (.long q0_3), .second, .val (.long q0_4), .second, .val (.int p0_5), .val (.ref b1), .val (.long (if (p0_5 &&& (1 : Int32)) = (0 : Int32) then q0_0 else q0_3)), .second, .unset, .unset, .unset, .unset, .unset, .unset, .unset] [(.long (if (p0_5 &&& (2 : Int32)) = (0 : Int32) then q0_1 else q0_4))])) (by simp only [q23]) k)
  have pre25 : ∀ t, Steps p.tables e below (T8.setTop (mkF m 47 #[.val (.long q0_0), .second, .val (.long q0_1), .second, .val (.long q0_2), .second, .val (.long q0_3), .second, .val (.long q0_4), .second, .val (.int p0_5), .val (.ref b1), .val (.long (if (p0_5 &&& (1 : Int32)) = (0 : Int32) then q0_0 else q0_3)), .second, .val (.long (if (p0_5 &&& (2 : Int32)) = (0 : Int32) then q0_1 else q0_4)), .second, .unset, .unset, .unset, .unset, .unset] [(.int (p0_5 &&& (4 : Int32)))])) t → Steps p.tables e below (s₁.setTop (entryFrame m #[(.long q0_0), (.long q0_1), (.long q0_2), (.long q0_3), (.long q0_4), (.int p0_5)] maxLocals)) t := fun t k => pre21 t (by
    show Steps p.tables e below (T8.setTop (mkF m 41 #[.val (.long q0_0), .second, .val (.long q0_1), .second, .val (.long q0_2), .second, .val (.long q0_3), .second, .val (.long q0_4), .second, .val (.int p0_5), .val (.ref b1), .val (.long (if (p0_5 &&& (1 : Int32)) = (0 : Int32) then q0_0 else q0_3)), .second, .unset, .unset, .unset, .unset, .unset, .unset, .unset] [(.long (if (p0_5 &&& (2 : Int32)) = (0 : Int32) then q0_1 else q0_4))])) _
    refine XS.lstore X8.here hx rfl (hb hby at_41) rfl (l' := #[.val (.long q0_0), .second, .val (.long q0_1), .second, .val (.long q0_2), .second, .val (.long q0_3), .second, .val (.long q0_4), .second, .val (.int p0_5), .val (.ref b1), .val (.long (if (p0_5 &&& (1 : Int32)) = (0 : Int32) then q0_0 else q0_3)), .second, .val (.long (if (p0_5 &&& (2 : Int32)) = (0 : Int32) then q0_1 else q0_4)), .second, .unset, .unset, .unset, .unset, .unset]) rfl ?_
    show Steps p.tables e below (T8.setTop (mkF m 43 #[.val (.long q0_0), .second, .val (.long q0_1), .second, .val (.long q0_2), .second, .val (.long q0_3), .second, .val (.long q0_4), .second, .val (.int p0_5), .val (.ref b1), .val (.long (if (p0_5 &&& (1 : Int32)) = (0 : Int32) then q0_0 else q0_3)), .second, .val (.long (if (p0_5 &&& (2 : Int32)) = (0 : Int32) then q0_1 else q0_4)), .second, .unset, .unset, .unset, .unset, .unset] [])) _
    refine XS.iload X8.here hx rfl (hb hby at_43) rfl ?_
    show Steps p.tables e below (T8.setTop (mkF m 45 #[.val (.long q0_0), .second, .val (.long q0_1), .second, .val (.long q0_2), .second, .val (.long q0_3), .second, .val (.long q0_4), .second, .val (.int p0_5), .val (.ref b1), .val (.long (if (p0_5 &&& (1 : Int32)) = (0 : Int32) then q0_0 else q0_3)), .second, .val (.long (if (p0_5 &&& (2 : Int32)) = (0 : Int32) then q0_1 else q0_4)), .second, .unset, .unset, .unset, .unset, .unset] [(.int p0_5)])) _
    refine XS.iconst X8.here hx rfl (hb hby at_45) ?_
    show Steps p.tables e below (T8.setTop (mkF m 46 #[.val (.long q0_0), .second, .val (.long q0_1), .second, .val (.long q0_2), .second, .val (.long q0_3), .second, .val (.long q0_4), .second, .val (.int p0_5), .val (.ref b1), .val (.long (if (p0_5 &&& (1 : Int32)) = (0 : Int32) then q0_0 else q0_3)), .second, .val (.long (if (p0_5 &&& (2 : Int32)) = (0 : Int32) then q0_1 else q0_4)), .second, .unset, .unset, .unset, .unset, .unset] [(.int (4 : Int32)), (.int p0_5)])) _
    refine XS.iand X8.here hx rfl (hb hby at_46) rfl ?_
    exact k)
  have pre26 : ∀ t, Steps p.tables e below (T8.setTop (mkF m 60 #[.val (.long q0_0), .second, .val (.long q0_1), .second, .val (.long q0_2), .second, .val (.long q0_3), .second, .val (.long q0_4), .second, .val (.int p0_5), .val (.ref b1), .val (.long (if (p0_5 &&& (1 : Int32)) = (0 : Int32) then q0_0 else q0_3)), .second, .val (.long (if (p0_5 &&& (2 : Int32)) = (0 : Int32) then q0_1 else q0_4)), .second, .unset, .unset, .unset, .unset, .unset] [(.long (if (p0_5 &&& (4 : Int32)) = (0 : Int32) then q0_2 else (q0_3 ^^^ q0_4)))])) t → Steps p.tables e below (s₁.setTop (entryFrame m #[(.long q0_0), (.long q0_1), (.long q0_2), (.long q0_3), (.long q0_4), (.int p0_5)] maxLocals)) t := fun t k => pre25 t (by
    by_cases hc24 : (p0_5 &&& (4 : Int32)) = (0 : Int32)
    · show Steps p.tables e below (T8.setTop (mkF m 47 #[.val (.long q0_0), .second, .val (.long q0_1), .second, .val (.long q0_2), .second, .val (.long q0_3), .second, .val (.long q0_4), .second, .val (.int p0_5), .val (.ref b1), .val (.long (if (p0_5 &&& (1 : Int32)) = (0 : Int32) then q0_0 else q0_3)), .second, .val (.long (if (p0_5 &&& (2 : Int32)) = (0 : Int32) then q0_1 else q0_4)), .second, .unset, .unset, .unset, .unset, .unset] [(.int (p0_5 &&& (4 : Int32)))])) _
      refine XS.ifYes X8.here hx rfl (pc0 := 47) (pc' := 58) rfl (hb hby at_47) rfl ((if0 _ _).trans (teq hc24).1) (by decide) (by decide) ?_
      show Steps p.tables e below (T8.setTop (mkF m 58 #[.val (.long q0_0), .second, .val (.long q0_1), .second, .val (.long q0_2), .second, .val (.long q0_3), .second, .val (.long q0_4), .second, .val (.int p0_5), .val (.ref b1), .val (.long (if (p0_5 &&& (1 : Int32)) = (0 : Int32) then q0_0 else q0_3)), .second, .val (.long (if (p0_5 &&& (2 : Int32)) = (0 : Int32) then q0_1 else q0_4)), .second, .unset, .unset, .unset, .unset, .unset] [])) _
      refine XS.lload X8.here hx rfl (hb hby at_58) rfl ?_
      have q27 : (if (p0_5 &&& (4 : Int32)) = (0 : Int32) then q0_2 else (q0_3 ^^^ q0_4)) = q0_2 := (if_pos hc24)
      exact castTop (g := (mkF m 60 #[.val (.long q0_0), .second, .val (.long q0_1), .second, .val (.long q0_2), .second, .val (.long q0_3), .second, .val (.long q0_4), .second, .val (.int p0_5), .val (.ref b1), .val (.long (if (p0_5 &&& (1 : Int32)) = (0 : Int32) then q0_0 else q0_3)), .second, .val (.long (if (p0_5 &&& (2 : Int32)) = (0 : Int32) then q0_1 else q0_4)), .second, .unset, .unset, .unset, .unset, .unset] [(.long q0_2)])) (g' := (mkF m 60 #[.val (.long q0_0), .second, .val (.long q0_1), .second, .val (.long q0_2), .second, .val (.long q0_3), .second, .val (.long q0_4), .second, .val (.int p0_5), .val (.ref b1), .val (.long (if (p0_5 &&& (1 : Int32)) = (0 : Int32) then q0_0 else q0_3)), .second, .val (.long (if (p0_5 &&& (2 : Int32)) = (0 : Int32) then q0_1 else q0_4)), .second, .unset, .unset, .unset, .unset, .unset] [(.long (if (p0_5 &&& (4 : Int32)) = (0 : Int32) then q0_2 else (q0_3 ^^^ q0_4)))])) (by simp only [q27]) k
    · show Steps p.tables e below (T8.setTop (mkF m 47 #[.val (.long q0_0), .second, .val (.long q0_1), .second, .val (.long q0_2), .second, .val (.long q0_3), .second, .val (.long q0_4), .second, .val (.int p0_5), .val (.ref b1), .val (.long (if (p0_5 &&& (1 : Int32)) = (0 : Int32) then q0_0 else q0_3)), .second, .val (.long (if (p0_5 &&& (2 : Int32)) = (0 : Int32) then q0_1 else q0_4)), .second, .unset, .unset, .unset, .unset, .unset] [(.int (p0_5 &&& (4 : Int32)))])) _
      refine XS.ifNo X8.here hx rfl (hb hby at_47) rfl ((if0 _ _).trans (feq hc24).1) ?_
      show Steps p.tables e below (T8.setTop (mkF m 50 #[.val (.long q0_0), .second, .val (.long q0_1), .second, .val (.long q0_2), .second, .val (.long q0_3), .second, .val (.long q0_4), .second, .val (.int p0_5), .val (.ref b1), .val (.long (if (p0_5 &&& (1 : Int32)) = (0 : Int32) then q0_0 else q0_3)), .second, .val (.long (if (p0_5 &&& (2 : Int32)) = (0 : Int32) then q0_1 else q0_4)), .second, .unset, .unset, .unset, .unset, .unset] [])) _
      refine XS.lload X8.here hx rfl (hb hby at_50) rfl ?_
      show Steps p.tables e below (T8.setTop (mkF m 52 #[.val (.long q0_0), .second, .val (.long q0_1), .second, .val (.long q0_2), .second, .val (.long q0_3), .second, .val (.long q0_4), .second, .val (.int p0_5), .val (.ref b1), .val (.long (if (p0_5 &&& (1 : Int32)) = (0 : Int32) then q0_0 else q0_3)), .second, .val (.long (if (p0_5 &&& (2 : Int32)) = (0 : Int32) then q0_1 else q0_4)), .second, .unset, .unset, .unset, .unset, .unset] [(.long q0_3)])) _
      refine XS.lload X8.here hx rfl (hb hby at_52) rfl ?_
      show Steps p.tables e below (T8.setTop (mkF m 54 #[.val (.long q0_0), .second, .val (.long q0_1), .second, .val (.long q0_2), .second, .val (.long q0_3), .second, .val (.long q0_4), .second, .val (.int p0_5), .val (.ref b1), .val (.long (if (p0_5 &&& (1 : Int32)) = (0 : Int32) then q0_0 else q0_3)), .second, .val (.long (if (p0_5 &&& (2 : Int32)) = (0 : Int32) then q0_1 else q0_4)), .second, .unset, .unset, .unset, .unset, .unset] [(.long q0_4), (.long q0_3)])) _
      refine XS.lxor X8.here hx rfl (hb hby at_54) rfl ?_
      show Steps p.tables e below (T8.setTop (mkF m 55 #[.val (.long q0_0), .second, .val (.long q0_1), .second, .val (.long q0_2), .second, .val (.long q0_3), .second, .val (.long q0_4), .second, .val (.int p0_5), .val (.ref b1), .val (.long (if (p0_5 &&& (1 : Int32)) = (0 : Int32) then q0_0 else q0_3)), .second, .val (.long (if (p0_5 &&& (2 : Int32)) = (0 : Int32) then q0_1 else q0_4)), .second, .unset, .unset, .unset, .unset, .unset] [(.long (q0_3 ^^^ q0_4))])) _
      refine XS.goto X8.here hx rfl (pc0 := 55) (pc' := 60) rfl (hb hby at_55) (by decide) (by decide) ?_
      have q28 : (if (p0_5 &&& (4 : Int32)) = (0 : Int32) then q0_2 else (q0_3 ^^^ q0_4)) = (q0_3 ^^^ q0_4) := (if_neg hc24)
      exact castTop (g := (mkF m 60 #[.val (.long q0_0), .second, .val (.long q0_1), .second, .val (.long q0_2), .second, .val (.long q0_3), .second, .val (.long q0_4), .second, .val (.int p0_5), .val (.ref b1), .val (.long (if (p0_5 &&& (1 : Int32)) = (0 : Int32) then q0_0 else q0_3)), .second, .val (.long (if (p0_5 &&& (2 : Int32)) = (0 : Int32) then q0_1 else q0_4)), .second, .unset, .unset, .unset, .unset, .unset] [(.long (q0_3 ^^^ q0_4))])) (g' := (mkF m 60 #[.val (.long q0_0), .second, .val (.long q0_1), .second, .val (.long q0_2), .second, .val (.long q0_3), .second, .val (.long q0_4), .second, .val (.int p0_5), .val (.ref b1), .val (.long (if (p0_5 &&& (1 : Int32)) = (0 : Int32) then q0_0 else q0_3)), .second, .val (.long (if (p0_5 &&& (2 : Int32)) = (0 : Int32) then q0_1 else q0_4)), .second, .unset, .unset, .unset, .unset, .unset] [(.long (if (p0_5 &&& (4 : Int32)) = (0 : Int32) then q0_2 else (q0_3 ^^^ q0_4)))])) (by simp only [q28]) k)
  have pre29 : ∀ t, Steps p.tables e below (T8.setTop (mkF m 62 #[.val (.long q0_0), .second, .val (.long q0_1), .second, .val (.long q0_2), .second, .val (.long q0_3), .second, .val (.long q0_4), .second, .val (.int p0_5), .val (.ref b1), .val (.long (if (p0_5 &&& (1 : Int32)) = (0 : Int32) then q0_0 else q0_3)), .second, .val (.long (if (p0_5 &&& (2 : Int32)) = (0 : Int32) then q0_1 else q0_4)), .second, .val (.long (if (p0_5 &&& (4 : Int32)) = (0 : Int32) then q0_2 else (q0_3 ^^^ q0_4))), .second, .unset, .unset, .unset] [])) t → Steps p.tables e below (s₁.setTop (entryFrame m #[(.long q0_0), (.long q0_1), (.long q0_2), (.long q0_3), (.long q0_4), (.int p0_5)] maxLocals)) t := fun t k => pre26 t (by
    show Steps p.tables e below (T8.setTop (mkF m 60 #[.val (.long q0_0), .second, .val (.long q0_1), .second, .val (.long q0_2), .second, .val (.long q0_3), .second, .val (.long q0_4), .second, .val (.int p0_5), .val (.ref b1), .val (.long (if (p0_5 &&& (1 : Int32)) = (0 : Int32) then q0_0 else q0_3)), .second, .val (.long (if (p0_5 &&& (2 : Int32)) = (0 : Int32) then q0_1 else q0_4)), .second, .unset, .unset, .unset, .unset, .unset] [(.long (if (p0_5 &&& (4 : Int32)) = (0 : Int32) then q0_2 else (q0_3 ^^^ q0_4)))])) _
    refine XS.lstore X8.here hx rfl (hb hby at_60) rfl (l' := #[.val (.long q0_0), .second, .val (.long q0_1), .second, .val (.long q0_2), .second, .val (.long q0_3), .second, .val (.long q0_4), .second, .val (.int p0_5), .val (.ref b1), .val (.long (if (p0_5 &&& (1 : Int32)) = (0 : Int32) then q0_0 else q0_3)), .second, .val (.long (if (p0_5 &&& (2 : Int32)) = (0 : Int32) then q0_1 else q0_4)), .second, .val (.long (if (p0_5 &&& (4 : Int32)) = (0 : Int32) then q0_2 else (q0_3 ^^^ q0_4))), .second, .unset, .unset, .unset]) rfl ?_
    exact k)
  obtain ⟨Y1, hY1⟩ : ∃ z : Int64, z = (if (p0_5 &&& (1 : Int32)) = (0 : Int32) then q0_0 else q0_3) := ⟨_, rfl⟩
  have pre30 : ∀ t, Steps p.tables e below (T8.setTop (mkF m 62 #[.val (.long q0_0), .second, .val (.long q0_1), .second, .val (.long q0_2), .second, .val (.long q0_3), .second, .val (.long q0_4), .second, .val (.int p0_5), .val (.ref b1), .val (.long Y1), .second, .val (.long (if (p0_5 &&& (2 : Int32)) = (0 : Int32) then q0_1 else q0_4)), .second, .val (.long (if (p0_5 &&& (4 : Int32)) = (0 : Int32) then q0_2 else (q0_3 ^^^ q0_4))), .second, .unset, .unset, .unset] [])) t → Steps p.tables e below (s₁.setTop (entryFrame m #[(.long q0_0), (.long q0_1), (.long q0_2), (.long q0_3), (.long q0_4), (.int p0_5)] maxLocals)) t := fun t k => pre29 t (castTop (by rw [hY1]) k)
  obtain ⟨Y2, hY2⟩ : ∃ z : Int64, z = (if (p0_5 &&& (2 : Int32)) = (0 : Int32) then q0_1 else q0_4) := ⟨_, rfl⟩
  have pre31 : ∀ t, Steps p.tables e below (T8.setTop (mkF m 62 #[.val (.long q0_0), .second, .val (.long q0_1), .second, .val (.long q0_2), .second, .val (.long q0_3), .second, .val (.long q0_4), .second, .val (.int p0_5), .val (.ref b1), .val (.long Y1), .second, .val (.long Y2), .second, .val (.long (if (p0_5 &&& (4 : Int32)) = (0 : Int32) then q0_2 else (q0_3 ^^^ q0_4))), .second, .unset, .unset, .unset] [])) t → Steps p.tables e below (s₁.setTop (entryFrame m #[(.long q0_0), (.long q0_1), (.long q0_2), (.long q0_3), (.long q0_4), (.int p0_5)] maxLocals)) t := fun t k => pre30 t (castTop (by rw [hY2]) k)
  obtain ⟨Y3, hY3⟩ : ∃ z : Int64, z = (if (p0_5 &&& (4 : Int32)) = (0 : Int32) then q0_2 else (q0_3 ^^^ q0_4)) := ⟨_, rfl⟩
  have pre32 : ∀ t, Steps p.tables e below (T8.setTop (mkF m 62 #[.val (.long q0_0), .second, .val (.long q0_1), .second, .val (.long q0_2), .second, .val (.long q0_3), .second, .val (.long q0_4), .second, .val (.int p0_5), .val (.ref b1), .val (.long Y1), .second, .val (.long Y2), .second, .val (.long Y3), .second, .unset, .unset, .unset] [])) t → Steps p.tables e below (s₁.setTop (entryFrame m #[(.long q0_0), (.long q0_1), (.long q0_2), (.long q0_3), (.long q0_4), (.int p0_5)] maxLocals)) t := fun t k => pre31 t (castTop (by rw [hY3]) k)
  have pre33 : ∀ t, Steps p.tables e below (T8.setTop (mkF m 70 #[.val (.long q0_0), .second, .val (.long q0_1), .second, .val (.long q0_2), .second, .val (.long q0_3), .second, .val (.long q0_4), .second, .val (.int p0_5), .val (.ref b1), .val (.long Y1), .second, .val (.long Y2), .second, .val (.long Y3), .second, .val (.int (((p0_5.toUInt32 >>> ((3 : Int32) &&& 31).toUInt32).toInt32) &&& (3 : Int32))), .unset, .unset] [])) t → Steps p.tables e below (s₁.setTop (entryFrame m #[(.long q0_0), (.long q0_1), (.long q0_2), (.long q0_3), (.long q0_4), (.int p0_5)] maxLocals)) t := fun t k => pre32 t (by
    show Steps p.tables e below (T8.setTop (mkF m 62 #[.val (.long q0_0), .second, .val (.long q0_1), .second, .val (.long q0_2), .second, .val (.long q0_3), .second, .val (.long q0_4), .second, .val (.int p0_5), .val (.ref b1), .val (.long Y1), .second, .val (.long Y2), .second, .val (.long Y3), .second, .unset, .unset, .unset] [])) _
    refine XS.iload X8.here hx rfl (hb hby at_62) rfl ?_
    show Steps p.tables e below (T8.setTop (mkF m 64 #[.val (.long q0_0), .second, .val (.long q0_1), .second, .val (.long q0_2), .second, .val (.long q0_3), .second, .val (.long q0_4), .second, .val (.int p0_5), .val (.ref b1), .val (.long Y1), .second, .val (.long Y2), .second, .val (.long Y3), .second, .unset, .unset, .unset] [(.int p0_5)])) _
    refine XS.iconst X8.here hx rfl (hb hby at_64) ?_
    show Steps p.tables e below (T8.setTop (mkF m 65 #[.val (.long q0_0), .second, .val (.long q0_1), .second, .val (.long q0_2), .second, .val (.long q0_3), .second, .val (.long q0_4), .second, .val (.int p0_5), .val (.ref b1), .val (.long Y1), .second, .val (.long Y2), .second, .val (.long Y3), .second, .unset, .unset, .unset] [(.int (3 : Int32)), (.int p0_5)])) _
    refine XS.iushr X8.here hx rfl (hb hby at_65) rfl ?_
    show Steps p.tables e below (T8.setTop (mkF m 66 #[.val (.long q0_0), .second, .val (.long q0_1), .second, .val (.long q0_2), .second, .val (.long q0_3), .second, .val (.long q0_4), .second, .val (.int p0_5), .val (.ref b1), .val (.long Y1), .second, .val (.long Y2), .second, .val (.long Y3), .second, .unset, .unset, .unset] [(.int ((p0_5.toUInt32 >>> ((3 : Int32) &&& 31).toUInt32).toInt32))])) _
    refine XS.iconst X8.here hx rfl (hb hby at_66) ?_
    show Steps p.tables e below (T8.setTop (mkF m 67 #[.val (.long q0_0), .second, .val (.long q0_1), .second, .val (.long q0_2), .second, .val (.long q0_3), .second, .val (.long q0_4), .second, .val (.int p0_5), .val (.ref b1), .val (.long Y1), .second, .val (.long Y2), .second, .val (.long Y3), .second, .unset, .unset, .unset] [(.int (3 : Int32)), (.int ((p0_5.toUInt32 >>> ((3 : Int32) &&& 31).toUInt32).toInt32))])) _
    refine XS.iand X8.here hx rfl (hb hby at_67) rfl ?_
    show Steps p.tables e below (T8.setTop (mkF m 68 #[.val (.long q0_0), .second, .val (.long q0_1), .second, .val (.long q0_2), .second, .val (.long q0_3), .second, .val (.long q0_4), .second, .val (.int p0_5), .val (.ref b1), .val (.long Y1), .second, .val (.long Y2), .second, .val (.long Y3), .second, .unset, .unset, .unset] [(.int (((p0_5.toUInt32 >>> ((3 : Int32) &&& 31).toUInt32).toInt32) &&& (3 : Int32)))])) _
    refine XS.istore X8.here hx rfl (hb hby at_68) rfl (l' := #[.val (.long q0_0), .second, .val (.long q0_1), .second, .val (.long q0_2), .second, .val (.long q0_3), .second, .val (.long q0_4), .second, .val (.int p0_5), .val (.ref b1), .val (.long Y1), .second, .val (.long Y2), .second, .val (.long Y3), .second, .val (.int (((p0_5.toUInt32 >>> ((3 : Int32) &&& 31).toUInt32).toInt32) &&& (3 : Int32))), .unset, .unset]) rfl ?_
    exact k)
  obtain ⟨KD, hKD⟩ : ∃ z : Int32, z = (((p0_5.toUInt32 >>> ((3 : Int32) &&& 31).toUInt32).toInt32) &&& (3 : Int32)) := ⟨_, rfl⟩
  have pre34 : ∀ t, Steps p.tables e below (T8.setTop (mkF m 70 #[.val (.long q0_0), .second, .val (.long q0_1), .second, .val (.long q0_2), .second, .val (.long q0_3), .second, .val (.long q0_4), .second, .val (.int p0_5), .val (.ref b1), .val (.long Y1), .second, .val (.long Y2), .second, .val (.long Y3), .second, .val (.int KD), .unset, .unset] [])) t → Steps p.tables e below (s₁.setTop (entryFrame m #[(.long q0_0), (.long q0_1), (.long q0_2), (.long q0_3), (.long q0_4), (.int p0_5)] maxLocals)) t := fun t k => pre33 t (castTop (by rw [hKD]) k)
  by_cases hc36 : KD = (0 : Int32)
  · obtain ⟨T37, h37, X37, e37, E37, A37, D37, -, st37⟩ := newO X8 hx hZ hown (hVV 0 _ rfl) (hVV 1 _ rfl) (hVV 2 _ rfl) rfl (g := (mkF m 75 #[.val (.long q0_0), .second, .val (.long q0_1), .second, .val (.long q0_2), .second, .val (.long q0_3), .second, .val (.long q0_4), .second, .val (.int p0_5), .val (.ref b1), .val (.long Y1), .second, .val (.long Y2), .second, .val (.long Y3), .second, .val (.int KD), .unset, .unset] [])) rfl (hb hby at_75) (by decide) (by decide)
    obtain ⟨b37, g37⟩ : ∃ z, z = T8.heap.size := ⟨_, rfl⟩
    rw [← g37] at A37 D37 st37
    have gz37 : n0 ≤ b37 := Nat.le_trans z12 (Nat.le_of_eq g37.symm)
    have ne38 : b1 ≠ b37 := Nat.ne_of_lt (Nat.lt_of_lt_of_le r8_0.lt (Nat.le_of_eq g37.symm))
    have pre39 : ∀ t, Steps p.tables e below (T37.setTop (mkF m 78 #[.val (.long q0_0), .second, .val (.long q0_1), .second, .val (.long q0_2), .second, .val (.long q0_3), .second, .val (.long q0_4), .second, .val (.int p0_5), .val (.ref b1), .val (.long Y1), .second, .val (.long Y2), .second, .val (.long Y3), .second, .val (.int KD), .unset, .unset] [(.ref b37)])) t → Steps p.tables e below (s₁.setTop (entryFrame m #[(.long q0_0), (.long q0_1), (.long q0_2), (.long q0_3), (.long q0_4), (.int p0_5)] maxLocals)) t := fun t k => pre34 t (by
      show Steps p.tables e below (T8.setTop (mkF m 70 #[.val (.long q0_0), .second, .val (.long q0_1), .second, .val (.long q0_2), .second, .val (.long q0_3), .second, .val (.long q0_4), .second, .val (.int p0_5), .val (.ref b1), .val (.long Y1), .second, .val (.long Y2), .second, .val (.long Y3), .second, .val (.int KD), .unset, .unset] [])) _
      refine XS.iload X8.here hx rfl (hb hby at_70) rfl ?_
      show Steps p.tables e below (T8.setTop (mkF m 72 #[.val (.long q0_0), .second, .val (.long q0_1), .second, .val (.long q0_2), .second, .val (.long q0_3), .second, .val (.long q0_4), .second, .val (.int p0_5), .val (.ref b1), .val (.long Y1), .second, .val (.long Y2), .second, .val (.long Y3), .second, .val (.int KD), .unset, .unset] [(.int KD)])) _
      refine XS.ifNo X8.here hx rfl (hb hby at_72) rfl ((if0 _ _).trans (teq hc36).2) ?_
      show Steps p.tables e below (T8.setTop (mkF m 75 #[.val (.long q0_0), .second, .val (.long q0_1), .second, .val (.long q0_2), .second, .val (.long q0_3), .second, .val (.long q0_4), .second, .val (.int p0_5), .val (.ref b1), .val (.long Y1), .second, .val (.long Y2), .second, .val (.long Y3), .second, .val (.int KD), .unset, .unset] [])) _
      refine st37 _ ?_
      exact k)
    have f40 := r8_0.ext E37
    have f41 := r8_1.ext E37
    have f42 := r8_2.ext E37
    have f43 := r8_3.ext E37
    have z44 := Nat.le_trans z12 E37.1
    have o45 := o13.ext E37
    have f46 : Fld Z h37 b37 "com/example/nearlane/nearlane/model/Resources" "cpuMilli" "J" (.long (0 : Int64)) := D37 (Or.inr (hVV 15 _ rfl)) (ty := .long) (by decide)
    have f47 : Fld Z h37 b37 "com/example/nearlane/nearlane/model/Resources" "memoryMib" "J" (.long (0 : Int64)) := D37 (Or.inr (hVV 17 _ rfl)) (ty := .long) (by decide)
    have f48 : Fld Z h37 b37 "com/example/nearlane/nearlane/model/Resources" "gpuMilli" "J" (.long (0 : Int64)) := D37 (Or.inr (hVV 19 _ rfl)) (ty := .long) (by decide)
    obtain ⟨_, _, ⟨T49, L49, k49, n49⟩, -, X49, ⟨Lc49, hQ49, l49, y49, z49⟩, st49⟩ := X37.specialBack hx (y := (⟨"com/example/nearlane/nearlane/model/Resources", "<init>", "(JJJ)V"⟩ : MethodName)) rfl hown (mvT hZ (hVV 3 _ rfl)) (mvT hZ (hVV 4 _ rfl)) (mvT hZ (hVV 5 _ rfl)) (by decide) (backOf (W := 1) (rm1 l Z a0 hw [] b37 Y1 Y2 Y3 (0 : Int64) (0 : Int64) (0 : Int64) h37 n0 z44 A37 f46 f47 f48 gz37) hZ (hVV 5 _ rfl) (hVV 2 _ rfl) (by decide) (by decide)) (g := (mkF m 85 #[.val (.long q0_0), .second, .val (.long q0_1), .second, .val (.long q0_2), .second, .val (.long q0_3), .second, .val (.long q0_4), .second, .val (.int p0_5), .val (.ref b1), .val (.long Y1), .second, .val (.long Y2), .second, .val (.long Y3), .second, .val (.int KD), .unset, .unset] [(.long Y3), (.long Y2), (.long Y1), (.ref b37), (.ref b37)])) rfl (by rw [hml]; rfl) (Steps.refl _) (a := b37) (argsL := [(.long Y1), (.long Y2), (.long Y3)]) (rest := [(.ref b37)]) (lenOf pd_2 rfl) rfl (by show 2 * 0 + _ ≤ _; exact Nat.le_of_eq rfl) (hb hby at_85) (fun _ _ => ⟨rfl, e37, (by decide : 2 + 0 ≤ _), (by decide : 6 + 0 ≤ _)⟩)
    dsimp only [Pt.U, Pt.locs, Pt.cells, Pt.slots] at X49 l49 y49 z49 st49 hQ49
    subst l49 y49 z49
    obtain ⟨rfl, N49q, K49, r49_0, r49_1, r49_2, r49_3⟩ := hQ49
    have N50 := Fr.app N9 N49q
    have pre51 : ∀ t, Steps p.tables e below (T49.setTop (mkF m 88 #[.val (.long q0_0), .second, .val (.long q0_1), .second, .val (.long q0_2), .second, .val (.long q0_3), .second, .val (.long q0_4), .second, .val (.int p0_5), .val (.ref b1), .val (.long Y1), .second, .val (.long Y2), .second, .val (.long Y3), .second, .val (.int KD), .unset, .unset] [(.ref b37)])) t → Steps p.tables e below (s₁.setTop (entryFrame m #[(.long q0_0), (.long q0_1), (.long q0_2), (.long q0_3), (.long q0_4), (.int p0_5)] maxLocals)) t := fun t k => pre39 t (by
      show Steps p.tables e below (T37.setTop (mkF m 78 #[.val (.long q0_0), .second, .val (.long q0_1), .second, .val (.long q0_2), .second, .val (.long q0_3), .second, .val (.long q0_4), .second, .val (.int p0_5), .val (.ref b1), .val (.long Y1), .second, .val (.long Y2), .second, .val (.long Y3), .second, .val (.int KD), .unset, .unset] [(.ref b37)])) _
      refine XS.dup X37.here hx rfl (hb hby at_78) rfl rfl ?_
      show Steps p.tables e below (T37.setTop (mkF m 79 #[.val (.long q0_0), .second, .val (.long q0_1), .second, .val (.long q0_2), .second, .val (.long q0_3), .second, .val (.long q0_4), .second, .val (.int p0_5), .val (.ref b1), .val (.long Y1), .second, .val (.long Y2), .second, .val (.long Y3), .second, .val (.int KD), .unset, .unset] [(.ref b37), (.ref b37)])) _
      refine XS.lload X37.here hx rfl (hb hby at_79) rfl ?_
      show Steps p.tables e below (T37.setTop (mkF m 81 #[.val (.long q0_0), .second, .val (.long q0_1), .second, .val (.long q0_2), .second, .val (.long q0_3), .second, .val (.long q0_4), .second, .val (.int p0_5), .val (.ref b1), .val (.long Y1), .second, .val (.long Y2), .second, .val (.long Y3), .second, .val (.int KD), .unset, .unset] [(.long Y1), (.ref b37), (.ref b37)])) _
      refine XS.lload X37.here hx rfl (hb hby at_81) rfl ?_
      show Steps p.tables e below (T37.setTop (mkF m 83 #[.val (.long q0_0), .second, .val (.long q0_1), .second, .val (.long q0_2), .second, .val (.long q0_3), .second, .val (.long q0_4), .second, .val (.int p0_5), .val (.ref b1), .val (.long Y1), .second, .val (.long Y2), .second, .val (.long Y3), .second, .val (.int KD), .unset, .unset] [(.long Y2), (.long Y1), (.ref b37), (.ref b37)])) _
      refine XS.lload X37.here hx rfl (hb hby at_83) rfl ?_
      show Steps p.tables e below (T37.setTop (mkF m 85 #[.val (.long q0_0), .second, .val (.long q0_1), .second, .val (.long q0_2), .second, .val (.long q0_3), .second, .val (.long q0_4), .second, .val (.int p0_5), .val (.ref b1), .val (.long Y1), .second, .val (.long Y2), .second, .val (.long Y3), .second, .val (.int KD), .unset, .unset] [(.long Y3), (.long Y2), (.long Y1), (.ref b37), (.ref b37)])) _
      refine st49.trans ?_
      exact k)
    have f52 := f40.keep K49
    have f53 := f41.keep K49 (ninS ne38 nin0)
    have f54 := f42.keep K49 (ninS ne38 nin0)
    have f55 := f43.keep K49 (ninS ne38 nin0)
    have f56 := A37.keep K49
    have z57 := Nat.le_trans z44 K49.1
    have o58 := o45.keep K49 (allS gz37 all0)
    have pre62 : ∀ t, Steps p.tables e below (T49.setTop (mkF m 94 #[.val (.long q0_0), .second, .val (.long q0_1), .second, .val (.long q0_2), .second, .val (.long q0_3), .second, .val (.long q0_4), .second, .val (.int p0_5), .val (.ref b1), .val (.long Y1), .second, .val (.long Y2), .second, .val (.long Y3), .second, .val (.int KD), .val (.ref b37), .unset] [(.int (lcmpW Y1 q0_0))])) t → Steps p.tables e below (s₁.setTop (entryFrame m #[(.long q0_0), (.long q0_1), (.long q0_2), (.long q0_3), (.long q0_4), (.int p0_5)] maxLocals)) t := fun t k => pre51 t (by
      show Steps p.tables e below (T49.setTop (mkF m 88 #[.val (.long q0_0), .second, .val (.long q0_1), .second, .val (.long q0_2), .second, .val (.long q0_3), .second, .val (.long q0_4), .second, .val (.int p0_5), .val (.ref b1), .val (.long Y1), .second, .val (.long Y2), .second, .val (.long Y3), .second, .val (.int KD), .unset, .unset] [(.ref b37)])) _
      refine XS.astore X49.here hx rfl (hb hby at_88) rfl rfl (l' := #[.val (.long q0_0), .second, .val (.long q0_1), .second, .val (.long q0_2), .second, .val (.long q0_3), .second, .val (.long q0_4), .second, .val (.int p0_5), .val (.ref b1), .val (.long Y1), .second, .val (.long Y2), .second, .val (.long Y3), .second, .val (.int KD), .val (.ref b37), .unset]) rfl ?_
      show Steps p.tables e below (T49.setTop (mkF m 90 #[.val (.long q0_0), .second, .val (.long q0_1), .second, .val (.long q0_2), .second, .val (.long q0_3), .second, .val (.long q0_4), .second, .val (.int p0_5), .val (.ref b1), .val (.long Y1), .second, .val (.long Y2), .second, .val (.long Y3), .second, .val (.int KD), .val (.ref b37), .unset] [])) _
      refine XS.lload X49.here hx rfl (hb hby at_90) rfl ?_
      show Steps p.tables e below (T49.setTop (mkF m 92 #[.val (.long q0_0), .second, .val (.long q0_1), .second, .val (.long q0_2), .second, .val (.long q0_3), .second, .val (.long q0_4), .second, .val (.int p0_5), .val (.ref b1), .val (.long Y1), .second, .val (.long Y2), .second, .val (.long Y3), .second, .val (.int KD), .val (.ref b37), .unset] [(.long Y1)])) _
      refine XS.lloadN X49.here hx rfl (hb hby at_92) rfl ?_
      show Steps p.tables e below (T49.setTop (mkF m 93 #[.val (.long q0_0), .second, .val (.long q0_1), .second, .val (.long q0_2), .second, .val (.long q0_3), .second, .val (.long q0_4), .second, .val (.int p0_5), .val (.ref b1), .val (.long Y1), .second, .val (.long Y2), .second, .val (.long Y3), .second, .val (.int KD), .val (.ref b37), .unset] [(.long q0_0), (.long Y1)])) _
      refine XS.lcmp X49.here hx rfl (hb hby at_93) rfl ?_
      exact k)
    have pre63 : ∀ t, Steps p.tables e below (T49.setTop (mkF m 117 #[.val (.long q0_0), .second, .val (.long q0_1), .second, .val (.long q0_2), .second, .val (.long q0_3), .second, .val (.long q0_4), .second, .val (.int p0_5), .val (.ref b1), .val (.long Y1), .second, .val (.long Y2), .second, .val (.long Y3), .second, .val (.int KD), .val (.ref b37), .unset] [(.int (bI ((Y1 = q0_0) ∧ ((Y2 = q0_1) ∧ (Y3 = q0_2)))))])) t → Steps p.tables e below (s₁.setTop (entryFrame m #[(.long q0_0), (.long q0_1), (.long q0_2), (.long q0_3), (.long q0_4), (.int p0_5)] maxLocals)) t := fun t k => pre62 t (by
      by_cases hc59 : Y1 = q0_0
      · show Steps p.tables e below (T49.setTop (mkF m 94 #[.val (.long q0_0), .second, .val (.long q0_1), .second, .val (.long q0_2), .second, .val (.long q0_3), .second, .val (.long q0_4), .second, .val (.int p0_5), .val (.ref b1), .val (.long Y1), .second, .val (.long Y2), .second, .val (.long Y3), .second, .val (.int KD), .val (.ref b37), .unset] [(.int (lcmpW Y1 q0_0))])) _
        refine XS.ifNo X49.here hx rfl (hb hby at_94) rfl ((if0 _ _).trans (teq ((lw_eq _ _).mpr hc59)).2) ?_
        show Steps p.tables e below (T49.setTop (mkF m 97 #[.val (.long q0_0), .second, .val (.long q0_1), .second, .val (.long q0_2), .second, .val (.long q0_3), .second, .val (.long q0_4), .second, .val (.int p0_5), .val (.ref b1), .val (.long Y1), .second, .val (.long Y2), .second, .val (.long Y3), .second, .val (.int KD), .val (.ref b37), .unset] [])) _
        refine XS.lload X49.here hx rfl (hb hby at_97) rfl ?_
        show Steps p.tables e below (T49.setTop (mkF m 99 #[.val (.long q0_0), .second, .val (.long q0_1), .second, .val (.long q0_2), .second, .val (.long q0_3), .second, .val (.long q0_4), .second, .val (.int p0_5), .val (.ref b1), .val (.long Y1), .second, .val (.long Y2), .second, .val (.long Y3), .second, .val (.int KD), .val (.ref b37), .unset] [(.long Y2)])) _
        refine XS.lloadN X49.here hx rfl (hb hby at_99) rfl ?_
        show Steps p.tables e below (T49.setTop (mkF m 100 #[.val (.long q0_0), .second, .val (.long q0_1), .second, .val (.long q0_2), .second, .val (.long q0_3), .second, .val (.long q0_4), .second, .val (.int p0_5), .val (.ref b1), .val (.long Y1), .second, .val (.long Y2), .second, .val (.long Y3), .second, .val (.int KD), .val (.ref b37), .unset] [(.long q0_1), (.long Y2)])) _
        refine XS.lcmp X49.here hx rfl (hb hby at_100) rfl ?_
        by_cases hc60 : Y2 = q0_1
        · show Steps p.tables e below (T49.setTop (mkF m 101 #[.val (.long q0_0), .second, .val (.long q0_1), .second, .val (.long q0_2), .second, .val (.long q0_3), .second, .val (.long q0_4), .second, .val (.int p0_5), .val (.ref b1), .val (.long Y1), .second, .val (.long Y2), .second, .val (.long Y3), .second, .val (.int KD), .val (.ref b37), .unset] [(.int (lcmpW Y2 q0_1))])) _
          refine XS.ifNo X49.here hx rfl (hb hby at_101) rfl ((if0 _ _).trans (teq ((lw_eq _ _).mpr hc60)).2) ?_
          show Steps p.tables e below (T49.setTop (mkF m 104 #[.val (.long q0_0), .second, .val (.long q0_1), .second, .val (.long q0_2), .second, .val (.long q0_3), .second, .val (.long q0_4), .second, .val (.int p0_5), .val (.ref b1), .val (.long Y1), .second, .val (.long Y2), .second, .val (.long Y3), .second, .val (.int KD), .val (.ref b37), .unset] [])) _
          refine XS.lload X49.here hx rfl (hb hby at_104) rfl ?_
          show Steps p.tables e below (T49.setTop (mkF m 106 #[.val (.long q0_0), .second, .val (.long q0_1), .second, .val (.long q0_2), .second, .val (.long q0_3), .second, .val (.long q0_4), .second, .val (.int p0_5), .val (.ref b1), .val (.long Y1), .second, .val (.long Y2), .second, .val (.long Y3), .second, .val (.int KD), .val (.ref b37), .unset] [(.long Y3)])) _
          refine XS.lload X49.here hx rfl (hb hby at_106) rfl ?_
          show Steps p.tables e below (T49.setTop (mkF m 108 #[.val (.long q0_0), .second, .val (.long q0_1), .second, .val (.long q0_2), .second, .val (.long q0_3), .second, .val (.long q0_4), .second, .val (.int p0_5), .val (.ref b1), .val (.long Y1), .second, .val (.long Y2), .second, .val (.long Y3), .second, .val (.int KD), .val (.ref b37), .unset] [(.long q0_2), (.long Y3)])) _
          refine XS.lcmp X49.here hx rfl (hb hby at_108) rfl ?_
          by_cases hc61 : Y3 = q0_2
          · show Steps p.tables e below (T49.setTop (mkF m 109 #[.val (.long q0_0), .second, .val (.long q0_1), .second, .val (.long q0_2), .second, .val (.long q0_3), .second, .val (.long q0_4), .second, .val (.int p0_5), .val (.ref b1), .val (.long Y1), .second, .val (.long Y2), .second, .val (.long Y3), .second, .val (.int KD), .val (.ref b37), .unset] [(.int (lcmpW Y3 q0_2))])) _
            refine XS.ifNo X49.here hx rfl (hb hby at_109) rfl ((if0 _ _).trans (teq ((lw_eq _ _).mpr hc61)).2) ?_
            show Steps p.tables e below (T49.setTop (mkF m 112 #[.val (.long q0_0), .second, .val (.long q0_1), .second, .val (.long q0_2), .second, .val (.long q0_3), .second, .val (.long q0_4), .second, .val (.int p0_5), .val (.ref b1), .val (.long Y1), .second, .val (.long Y2), .second, .val (.long Y3), .second, .val (.int KD), .val (.ref b37), .unset] [])) _
            refine XS.iconst X49.here hx rfl (hb hby at_112) ?_
            show Steps p.tables e below (T49.setTop (mkF m 113 #[.val (.long q0_0), .second, .val (.long q0_1), .second, .val (.long q0_2), .second, .val (.long q0_3), .second, .val (.long q0_4), .second, .val (.int p0_5), .val (.ref b1), .val (.long Y1), .second, .val (.long Y2), .second, .val (.long Y3), .second, .val (.int KD), .val (.ref b37), .unset] [(.int (1 : Int32))])) _
            refine XS.goto X49.here hx rfl (pc0 := 113) (pc' := 117) rfl (hb hby at_113) (by decide) (by decide) ?_
            have q64 : (bI ((Y1 = q0_0) ∧ ((Y2 = q0_1) ∧ (Y3 = q0_2)))) = (1 : Int32) := (bI_t ⟨hc59, ⟨hc60, hc61⟩⟩)
            exact castTop (g := (mkF m 117 #[.val (.long q0_0), .second, .val (.long q0_1), .second, .val (.long q0_2), .second, .val (.long q0_3), .second, .val (.long q0_4), .second, .val (.int p0_5), .val (.ref b1), .val (.long Y1), .second, .val (.long Y2), .second, .val (.long Y3), .second, .val (.int KD), .val (.ref b37), .unset] [(.int (1 : Int32))])) (g' := (mkF m 117 #[.val (.long q0_0), .second, .val (.long q0_1), .second, .val (.long q0_2), .second, .val (.long q0_3), .second, .val (.long q0_4), .second, .val (.int p0_5), .val (.ref b1), .val (.long Y1), .second, .val (.long Y2), .second, .val (.long Y3), .second, .val (.int KD), .val (.ref b37), .unset] [(.int (bI ((Y1 = q0_0) ∧ ((Y2 = q0_1) ∧ (Y3 = q0_2)))))])) (by simp only [q64]) k
          · show Steps p.tables e below (T49.setTop (mkF m 109 #[.val (.long q0_0), .second, .val (.long q0_1), .second, .val (.long q0_2), .second, .val (.long q0_3), .second, .val (.long q0_4), .second, .val (.int p0_5), .val (.ref b1), .val (.long Y1), .second, .val (.long Y2), .second, .val (.long Y3), .second, .val (.int KD), .val (.ref b37), .unset] [(.int (lcmpW Y3 q0_2))])) _
            refine XS.ifYes X49.here hx rfl (pc0 := 109) (pc' := 116) rfl (hb hby at_109) rfl ((if0 _ _).trans (feq (fun q => hc61 ((lw_eq _ _).mp q))).2) (by decide) (by decide) ?_
            show Steps p.tables e below (T49.setTop (mkF m 116 #[.val (.long q0_0), .second, .val (.long q0_1), .second, .val (.long q0_2), .second, .val (.long q0_3), .second, .val (.long q0_4), .second, .val (.int p0_5), .val (.ref b1), .val (.long Y1), .second, .val (.long Y2), .second, .val (.long Y3), .second, .val (.int KD), .val (.ref b37), .unset] [])) _
            refine XS.iconst X49.here hx rfl (hb hby at_116) ?_
            have q65 : (bI ((Y1 = q0_0) ∧ ((Y2 = q0_1) ∧ (Y3 = q0_2)))) = (0 : Int32) := (bI_f (fun z => (fun z => hc61 z.2) z.2))
            exact castTop (g := (mkF m 117 #[.val (.long q0_0), .second, .val (.long q0_1), .second, .val (.long q0_2), .second, .val (.long q0_3), .second, .val (.long q0_4), .second, .val (.int p0_5), .val (.ref b1), .val (.long Y1), .second, .val (.long Y2), .second, .val (.long Y3), .second, .val (.int KD), .val (.ref b37), .unset] [(.int (0 : Int32))])) (g' := (mkF m 117 #[.val (.long q0_0), .second, .val (.long q0_1), .second, .val (.long q0_2), .second, .val (.long q0_3), .second, .val (.long q0_4), .second, .val (.int p0_5), .val (.ref b1), .val (.long Y1), .second, .val (.long Y2), .second, .val (.long Y3), .second, .val (.int KD), .val (.ref b37), .unset] [(.int (bI ((Y1 = q0_0) ∧ ((Y2 = q0_1) ∧ (Y3 = q0_2)))))])) (by simp only [q65]) k
        · show Steps p.tables e below (T49.setTop (mkF m 101 #[.val (.long q0_0), .second, .val (.long q0_1), .second, .val (.long q0_2), .second, .val (.long q0_3), .second, .val (.long q0_4), .second, .val (.int p0_5), .val (.ref b1), .val (.long Y1), .second, .val (.long Y2), .second, .val (.long Y3), .second, .val (.int KD), .val (.ref b37), .unset] [(.int (lcmpW Y2 q0_1))])) _
          refine XS.ifYes X49.here hx rfl (pc0 := 101) (pc' := 116) rfl (hb hby at_101) rfl ((if0 _ _).trans (feq (fun q => hc60 ((lw_eq _ _).mp q))).2) (by decide) (by decide) ?_
          show Steps p.tables e below (T49.setTop (mkF m 116 #[.val (.long q0_0), .second, .val (.long q0_1), .second, .val (.long q0_2), .second, .val (.long q0_3), .second, .val (.long q0_4), .second, .val (.int p0_5), .val (.ref b1), .val (.long Y1), .second, .val (.long Y2), .second, .val (.long Y3), .second, .val (.int KD), .val (.ref b37), .unset] [])) _
          refine XS.iconst X49.here hx rfl (hb hby at_116) ?_
          have q66 : (bI ((Y1 = q0_0) ∧ ((Y2 = q0_1) ∧ (Y3 = q0_2)))) = (0 : Int32) := (bI_f (fun z => (fun z => hc60 z.1) z.2))
          exact castTop (g := (mkF m 117 #[.val (.long q0_0), .second, .val (.long q0_1), .second, .val (.long q0_2), .second, .val (.long q0_3), .second, .val (.long q0_4), .second, .val (.int p0_5), .val (.ref b1), .val (.long Y1), .second, .val (.long Y2), .second, .val (.long Y3), .second, .val (.int KD), .val (.ref b37), .unset] [(.int (0 : Int32))])) (g' := (mkF m 117 #[.val (.long q0_0), .second, .val (.long q0_1), .second, .val (.long q0_2), .second, .val (.long q0_3), .second, .val (.long q0_4), .second, .val (.int p0_5), .val (.ref b1), .val (.long Y1), .second, .val (.long Y2), .second, .val (.long Y3), .second, .val (.int KD), .val (.ref b37), .unset] [(.int (bI ((Y1 = q0_0) ∧ ((Y2 = q0_1) ∧ (Y3 = q0_2)))))])) (by simp only [q66]) k
      · show Steps p.tables e below (T49.setTop (mkF m 94 #[.val (.long q0_0), .second, .val (.long q0_1), .second, .val (.long q0_2), .second, .val (.long q0_3), .second, .val (.long q0_4), .second, .val (.int p0_5), .val (.ref b1), .val (.long Y1), .second, .val (.long Y2), .second, .val (.long Y3), .second, .val (.int KD), .val (.ref b37), .unset] [(.int (lcmpW Y1 q0_0))])) _
        refine XS.ifYes X49.here hx rfl (pc0 := 94) (pc' := 116) rfl (hb hby at_94) rfl ((if0 _ _).trans (feq (fun q => hc59 ((lw_eq _ _).mp q))).2) (by decide) (by decide) ?_
        show Steps p.tables e below (T49.setTop (mkF m 116 #[.val (.long q0_0), .second, .val (.long q0_1), .second, .val (.long q0_2), .second, .val (.long q0_3), .second, .val (.long q0_4), .second, .val (.int p0_5), .val (.ref b1), .val (.long Y1), .second, .val (.long Y2), .second, .val (.long Y3), .second, .val (.int KD), .val (.ref b37), .unset] [])) _
        refine XS.iconst X49.here hx rfl (hb hby at_116) ?_
        have q67 : (bI ((Y1 = q0_0) ∧ ((Y2 = q0_1) ∧ (Y3 = q0_2)))) = (0 : Int32) := (bI_f (fun z => hc59 z.1))
        exact castTop (g := (mkF m 117 #[.val (.long q0_0), .second, .val (.long q0_1), .second, .val (.long q0_2), .second, .val (.long q0_3), .second, .val (.long q0_4), .second, .val (.int p0_5), .val (.ref b1), .val (.long Y1), .second, .val (.long Y2), .second, .val (.long Y3), .second, .val (.int KD), .val (.ref b37), .unset] [(.int (0 : Int32))])) (g' := (mkF m 117 #[.val (.long q0_0), .second, .val (.long q0_1), .second, .val (.long q0_2), .second, .val (.long q0_3), .second, .val (.long q0_4), .second, .val (.int p0_5), .val (.ref b1), .val (.long Y1), .second, .val (.long Y2), .second, .val (.long Y3), .second, .val (.int KD), .val (.ref b37), .unset] [(.int (bI ((Y1 = q0_0) ∧ ((Y2 = q0_1) ∧ (Y3 = q0_2)))))])) (by simp only [q67]) k)
    obtain ⟨cq68, kq68, q68a, q68b, q68c⟩ := isOf hZ rfl f52
    obtain ⟨_, _, ⟨T68, L68, k68, n68⟩, -, X68, ⟨Lc68, hQ68, l68, y68, z68⟩, st68⟩ := X49.virtualBack hx (y := (⟨"com/example/nearlane/nearlane/model/Resources", "equals", "(Ljava/lang/Object;)Z"⟩ : MethodName)) (z := (⟨"com/example/nearlane/nearlane/model/Resources", "equals", "(Ljava/lang/Object;)Z"⟩ : MethodName)) hown (mvT hZ (hVV 20 _ rfl)) (mvT hZ (hVV 21 _ rfl)) (notFace_of_selects (args := #[]) (mvT hZ (hVV 23 _ rfl))) (mvT hZ (hVV 23 _ rfl)) (mvT hZ (hVV 22 _ rfl)) (by decide) (backOf (W := 0) (rm4_o l Z a0 hw [] b1 b37 q0_0 Y1 q0_1 Y2 q0_2 Y3 T49.heap n0 z57 r49_0 ne38 f53 r49_1 f54 r49_2 f55 r49_3) hZ (hVV 24 _ rfl) (hVV 2 _ rfl) (by decide) (by decide)) q68a q68c (g := (mkF m 166 #[.val (.long q0_0), .second, .val (.long q0_1), .second, .val (.long q0_2), .second, .val (.long q0_3), .second, .val (.long q0_4), .second, .val (.int p0_5), .val (.ref b1), .val (.long Y1), .second, .val (.long Y2), .second, .val (.long Y3), .second, .val (.int KD), .val (.ref b37), .val (.int (bI ((Y1 = q0_0) ∧ ((Y2 = q0_1) ∧ (Y3 = q0_2)))))] [(.ref b37), (.ref b1)])) rfl (by rw [hml]; rfl) (Steps.refl _) (argsL := [(.ref b37)]) (rest := []) (lenOf pd_3 rfl) rfl (by show 2 * 0 + _ ≤ _; exact Nat.le_of_eq rfl) (hb hby at_166) (fun _ _ => ⟨rfl, rfl, (by decide : 2 + 0 ≤ _), (by decide : 6 + 0 ≤ _)⟩)
    dsimp only [Pt.U, Pt.locs, Pt.cells, Pt.slots] at X68 l68 y68 z68 st68 hQ68
    subst l68 y68 z68
    obtain ⟨rfl, N68q, e68⟩ := hQ68
    have N69 := Fr.app N50 N68q
    have pre70 : ∀ t, Steps p.tables e below (T68.setTop (mkF m 169 #[.val (.long q0_0), .second, .val (.long q0_1), .second, .val (.long q0_2), .second, .val (.long q0_3), .second, .val (.long q0_4), .second, .val (.int p0_5), .val (.ref b1), .val (.long Y1), .second, .val (.long Y2), .second, .val (.long Y3), .second, .val (.int KD), .val (.ref b37), .val (.int (bI ((Y1 = q0_0) ∧ ((Y2 = q0_1) ∧ (Y3 = q0_2)))))] [(.int (bI ((q0_0 = Y1) ∧ ((q0_1 = Y2) ∧ (q0_2 = Y3)))))])) t → Steps p.tables e below (s₁.setTop (entryFrame m #[(.long q0_0), (.long q0_1), (.long q0_2), (.long q0_3), (.long q0_4), (.int p0_5)] maxLocals)) t := fun t k => pre63 t (by
      show Steps p.tables e below (T49.setTop (mkF m 117 #[.val (.long q0_0), .second, .val (.long q0_1), .second, .val (.long q0_2), .second, .val (.long q0_3), .second, .val (.long q0_4), .second, .val (.int p0_5), .val (.ref b1), .val (.long Y1), .second, .val (.long Y2), .second, .val (.long Y3), .second, .val (.int KD), .val (.ref b37), .unset] [(.int (bI ((Y1 = q0_0) ∧ ((Y2 = q0_1) ∧ (Y3 = q0_2)))))])) _
      refine XS.istore X49.here hx rfl (hb hby at_117) rfl (l' := #[.val (.long q0_0), .second, .val (.long q0_1), .second, .val (.long q0_2), .second, .val (.long q0_3), .second, .val (.long q0_4), .second, .val (.int p0_5), .val (.ref b1), .val (.long Y1), .second, .val (.long Y2), .second, .val (.long Y3), .second, .val (.int KD), .val (.ref b37), .val (.int (bI ((Y1 = q0_0) ∧ ((Y2 = q0_1) ∧ (Y3 = q0_2)))))]) rfl ?_
      show Steps p.tables e below (T49.setTop (mkF m 119 #[.val (.long q0_0), .second, .val (.long q0_1), .second, .val (.long q0_2), .second, .val (.long q0_3), .second, .val (.long q0_4), .second, .val (.int p0_5), .val (.ref b1), .val (.long Y1), .second, .val (.long Y2), .second, .val (.long Y3), .second, .val (.int KD), .val (.ref b37), .val (.int (bI ((Y1 = q0_0) ∧ ((Y2 = q0_1) ∧ (Y3 = q0_2)))))] [])) _
      refine XS.goto X49.here hx rfl (pc0 := 119) (pc' := 162) rfl (hb hby at_119) (by decide) (by decide) ?_
      show Steps p.tables e below (T49.setTop (mkF m 162 #[.val (.long q0_0), .second, .val (.long q0_1), .second, .val (.long q0_2), .second, .val (.long q0_3), .second, .val (.long q0_4), .second, .val (.int p0_5), .val (.ref b1), .val (.long Y1), .second, .val (.long Y2), .second, .val (.long Y3), .second, .val (.int KD), .val (.ref b37), .val (.int (bI ((Y1 = q0_0) ∧ ((Y2 = q0_1) ∧ (Y3 = q0_2)))))] [])) _
      refine XS.aload X49.here hx rfl (hb hby at_162) rfl rfl ?_
      show Steps p.tables e below (T49.setTop (mkF m 164 #[.val (.long q0_0), .second, .val (.long q0_1), .second, .val (.long q0_2), .second, .val (.long q0_3), .second, .val (.long q0_4), .second, .val (.int p0_5), .val (.ref b1), .val (.long Y1), .second, .val (.long Y2), .second, .val (.long Y3), .second, .val (.int KD), .val (.ref b37), .val (.int (bI ((Y1 = q0_0) ∧ ((Y2 = q0_1) ∧ (Y3 = q0_2)))))] [(.ref b1)])) _
      refine XS.aload X49.here hx rfl (hb hby at_164) rfl rfl ?_
      show Steps p.tables e below (T49.setTop (mkF m 166 #[.val (.long q0_0), .second, .val (.long q0_1), .second, .val (.long q0_2), .second, .val (.long q0_3), .second, .val (.long q0_4), .second, .val (.int p0_5), .val (.ref b1), .val (.long Y1), .second, .val (.long Y2), .second, .val (.long Y3), .second, .val (.int KD), .val (.ref b37), .val (.int (bI ((Y1 = q0_0) ∧ ((Y2 = q0_1) ∧ (Y3 = q0_2)))))] [(.ref b37), (.ref b1)])) _
      refine st68.trans ?_
      exact k)
    have hd71 : (bI ((q0_0 = Y1) ∧ ((q0_1 = Y2) ∧ (q0_2 = Y3)))) = (bI ((Y1 = q0_0) ∧ ((Y2 = q0_1) ∧ (Y3 = q0_2)))) := by
      exact bI_iff ⟨fun ⟨x, y, z⟩ => ⟨x.symm, y.symm, z.symm⟩, fun ⟨x, y, z⟩ => ⟨x.symm, y.symm, z.symm⟩⟩
    obtain ⟨fs, hr, hrun, hended, hW, hsame⟩ := X68.leave (v := some (.int (1 : Int32))) (fun h => by rw [Bd.returns] at h; cases h)
    refine ⟨_, _, pre70 _ ?_, hrun, hended, _, _, rfl, ?_, ⟨_, rfl⟩, hW, hsame.mono (by decide) (by decide)⟩
    · show Steps p.tables e below (T68.setTop (mkF m 169 #[.val (.long q0_0), .second, .val (.long q0_1), .second, .val (.long q0_2), .second, .val (.long q0_3), .second, .val (.long q0_4), .second, .val (.int p0_5), .val (.ref b1), .val (.long Y1), .second, .val (.long Y2), .second, .val (.long Y3), .second, .val (.int KD), .val (.ref b37), .val (.int (bI ((Y1 = q0_0) ∧ ((Y2 = q0_1) ∧ (Y3 = q0_2)))))] [(.int (bI ((q0_0 = Y1) ∧ ((q0_1 = Y2) ∧ (q0_2 = Y3)))))])) _
      refine XS.iload X68.here hx rfl (hb hby at_169) rfl ?_
      show Steps p.tables e below (T68.setTop (mkF m 171 #[.val (.long q0_0), .second, .val (.long q0_1), .second, .val (.long q0_2), .second, .val (.long q0_3), .second, .val (.long q0_4), .second, .val (.int p0_5), .val (.ref b1), .val (.long Y1), .second, .val (.long Y2), .second, .val (.long Y3), .second, .val (.int KD), .val (.ref b37), .val (.int (bI ((Y1 = q0_0) ∧ ((Y2 = q0_1) ∧ (Y3 = q0_2)))))] [(.int (bI ((Y1 = q0_0) ∧ ((Y2 = q0_1) ∧ (Y3 = q0_2))))), (.int (bI ((q0_0 = Y1) ∧ ((q0_1 = Y2) ∧ (q0_2 = Y3)))))])) _
      refine XS.icmpNo X68.here hx rfl (hb hby at_171) rfl (teq hd71).2 ?_
      show Steps p.tables e below (T68.setTop (mkF m 174 #[.val (.long q0_0), .second, .val (.long q0_1), .second, .val (.long q0_2), .second, .val (.long q0_3), .second, .val (.long q0_4), .second, .val (.int p0_5), .val (.ref b1), .val (.long Y1), .second, .val (.long Y2), .second, .val (.long Y3), .second, .val (.int KD), .val (.ref b37), .val (.int (bI ((Y1 = q0_0) ∧ ((Y2 = q0_1) ∧ (Y3 = q0_2)))))] [])) _
      refine XS.iconst X68.here hx rfl (hb hby at_174) ?_
      show Steps p.tables e below (T68.setTop (mkF m 175 #[.val (.long q0_0), .second, .val (.long q0_1), .second, .val (.long q0_2), .second, .val (.long q0_3), .second, .val (.long q0_4), .second, .val (.int p0_5), .val (.ref b1), .val (.long Y1), .second, .val (.long Y2), .second, .val (.long Y3), .second, .val (.int KD), .val (.ref b37), .val (.int (bI ((Y1 = q0_0) ∧ ((Y2 = q0_1) ∧ (Y3 = q0_2)))))] [(.int (1 : Int32))])) _
      refine XS.goto X68.here hx rfl (pc0 := 175) (pc' := 179) rfl (hb hby at_175) (by decide) (by decide) ?_
      show Steps p.tables e below (T68.setTop (mkF m 179 #[.val (.long q0_0), .second, .val (.long q0_1), .second, .val (.long q0_2), .second, .val (.long q0_3), .second, .val (.long q0_4), .second, .val (.int p0_5), .val (.ref b1), .val (.long Y1), .second, .val (.long Y2), .second, .val (.long Y3), .second, .val (.int KD), .val (.ref b37), .val (.int (bI ((Y1 = q0_0) ∧ ((Y2 = q0_1) ∧ (Y3 = q0_2)))))] [(.int (1 : Int32))])) _
      exact retN X68 hx (t := .boolean) Bd.returns (by simp) (hb hby at_179) hr
    · show Q0 Z q0_0 q0_1 q0_2 q0_3 q0_4 p0_5 w0_cache clc h0 n0 _ T68.heap _
      rw [e68]
      exact ⟨rfl, N69⟩
  · by_cases hc74 : KD = (1 : Int32)
    · obtain ⟨cq75, kq75, q75a, q75b, q75c⟩ := isOf hZ rfl r8_0
      obtain ⟨_, _, ⟨T75, L75, k75, n75⟩, -, X75, ⟨Lc75, hQ75, l75, y75, z75⟩, st75⟩ := X8.virtualBack hx (y := (⟨"com/example/nearlane/nearlane/model/Resources", "equals", "(Ljava/lang/Object;)Z"⟩ : MethodName)) (z := (⟨"com/example/nearlane/nearlane/model/Resources", "equals", "(Ljava/lang/Object;)Z"⟩ : MethodName)) hown (mvT hZ (hVV 20 _ rfl)) (mvT hZ (hVV 21 _ rfl)) (notFace_of_selects (args := #[]) (mvT hZ (hVV 23 _ rfl))) (mvT hZ (hVV 23 _ rfl)) (mvT hZ (hVV 22 _ rfl)) (by decide) (backOf (W := 0) (rm4_s l Z a0 hw [] b1 T8.heap n0 z12 ) hZ (hVV 24 _ rfl) (hVV 2 _ rfl) (by decide) (by decide)) q75a q75c (g := (mkF m 166 #[.val (.long q0_0), .second, .val (.long q0_1), .second, .val (.long q0_2), .second, .val (.long q0_3), .second, .val (.long q0_4), .second, .val (.int p0_5), .val (.ref b1), .val (.long Y1), .second, .val (.long Y2), .second, .val (.long Y3), .second, .val (.int KD), .val (.ref b1), .val (.int (1 : Int32))] [(.ref b1), (.ref b1)])) rfl (by rw [hml]; rfl) (Steps.refl _) (argsL := [(.ref b1)]) (rest := []) (lenOf pd_3 rfl) rfl (by show 2 * 0 + _ ≤ _; exact Nat.le_of_eq rfl) (hb hby at_166) (fun _ _ => ⟨rfl, rfl, (by decide : 1 + 0 ≤ _), (by decide : 3 + 0 ≤ _)⟩)
      dsimp only [Pt.U, Pt.locs, Pt.cells, Pt.slots] at X75 l75 y75 z75 st75 hQ75
      subst l75 y75 z75
      obtain ⟨rfl, N75q, e75⟩ := hQ75
      have N76 := Fr.app N9 N75q
      have pre77 : ∀ t, Steps p.tables e below (T75.setTop (mkF m 169 #[.val (.long q0_0), .second, .val (.long q0_1), .second, .val (.long q0_2), .second, .val (.long q0_3), .second, .val (.long q0_4), .second, .val (.int p0_5), .val (.ref b1), .val (.long Y1), .second, .val (.long Y2), .second, .val (.long Y3), .second, .val (.int KD), .val (.ref b1), .val (.int (1 : Int32))] [(.int (1 : Int32))])) t → Steps p.tables e below (s₁.setTop (entryFrame m #[(.long q0_0), (.long q0_1), (.long q0_2), (.long q0_3), (.long q0_4), (.int p0_5)] maxLocals)) t := fun t k => pre34 t (by
        show Steps p.tables e below (T8.setTop (mkF m 70 #[.val (.long q0_0), .second, .val (.long q0_1), .second, .val (.long q0_2), .second, .val (.long q0_3), .second, .val (.long q0_4), .second, .val (.int p0_5), .val (.ref b1), .val (.long Y1), .second, .val (.long Y2), .second, .val (.long Y3), .second, .val (.int KD), .unset, .unset] [])) _
        refine XS.iload X8.here hx rfl (hb hby at_70) rfl ?_
        show Steps p.tables e below (T8.setTop (mkF m 72 #[.val (.long q0_0), .second, .val (.long q0_1), .second, .val (.long q0_2), .second, .val (.long q0_3), .second, .val (.long q0_4), .second, .val (.int p0_5), .val (.ref b1), .val (.long Y1), .second, .val (.long Y2), .second, .val (.long Y3), .second, .val (.int KD), .unset, .unset] [(.int KD)])) _
        refine XS.ifYes X8.here hx rfl (pc0 := 72) (pc' := 122) rfl (hb hby at_72) rfl ((if0 _ _).trans (feq hc36).2) (by decide) (by decide) ?_
        show Steps p.tables e below (T8.setTop (mkF m 122 #[.val (.long q0_0), .second, .val (.long q0_1), .second, .val (.long q0_2), .second, .val (.long q0_3), .second, .val (.long q0_4), .second, .val (.int p0_5), .val (.ref b1), .val (.long Y1), .second, .val (.long Y2), .second, .val (.long Y3), .second, .val (.int KD), .unset, .unset] [])) _
        refine XS.iload X8.here hx rfl (hb hby at_122) rfl ?_
        show Steps p.tables e below (T8.setTop (mkF m 124 #[.val (.long q0_0), .second, .val (.long q0_1), .second, .val (.long q0_2), .second, .val (.long q0_3), .second, .val (.long q0_4), .second, .val (.int p0_5), .val (.ref b1), .val (.long Y1), .second, .val (.long Y2), .second, .val (.long Y3), .second, .val (.int KD), .unset, .unset] [(.int KD)])) _
        refine XS.iconst X8.here hx rfl (hb hby at_124) ?_
        show Steps p.tables e below (T8.setTop (mkF m 125 #[.val (.long q0_0), .second, .val (.long q0_1), .second, .val (.long q0_2), .second, .val (.long q0_3), .second, .val (.long q0_4), .second, .val (.int p0_5), .val (.ref b1), .val (.long Y1), .second, .val (.long Y2), .second, .val (.long Y3), .second, .val (.int KD), .unset, .unset] [(.int (1 : Int32)), (.int KD)])) _
        refine XS.icmpNo X8.here hx rfl (hb hby at_125) rfl (teq hc74).2 ?_
        show Steps p.tables e below (T8.setTop (mkF m 128 #[.val (.long q0_0), .second, .val (.long q0_1), .second, .val (.long q0_2), .second, .val (.long q0_3), .second, .val (.long q0_4), .second, .val (.int p0_5), .val (.ref b1), .val (.long Y1), .second, .val (.long Y2), .second, .val (.long Y3), .second, .val (.int KD), .unset, .unset] [])) _
        refine XS.aload X8.here hx rfl (hb hby at_128) rfl rfl ?_
        show Steps p.tables e below (T8.setTop (mkF m 130 #[.val (.long q0_0), .second, .val (.long q0_1), .second, .val (.long q0_2), .second, .val (.long q0_3), .second, .val (.long q0_4), .second, .val (.int p0_5), .val (.ref b1), .val (.long Y1), .second, .val (.long Y2), .second, .val (.long Y3), .second, .val (.int KD), .unset, .unset] [(.ref b1)])) _
        refine XS.astore X8.here hx rfl (hb hby at_130) rfl rfl (l' := #[.val (.long q0_0), .second, .val (.long q0_1), .second, .val (.long q0_2), .second, .val (.long q0_3), .second, .val (.long q0_4), .second, .val (.int p0_5), .val (.ref b1), .val (.long Y1), .second, .val (.long Y2), .second, .val (.long Y3), .second, .val (.int KD), .val (.ref b1), .unset]) rfl ?_
        show Steps p.tables e below (T8.setTop (mkF m 132 #[.val (.long q0_0), .second, .val (.long q0_1), .second, .val (.long q0_2), .second, .val (.long q0_3), .second, .val (.long q0_4), .second, .val (.int p0_5), .val (.ref b1), .val (.long Y1), .second, .val (.long Y2), .second, .val (.long Y3), .second, .val (.int KD), .val (.ref b1), .unset] [])) _
        refine XS.iconst X8.here hx rfl (hb hby at_132) ?_
        show Steps p.tables e below (T8.setTop (mkF m 133 #[.val (.long q0_0), .second, .val (.long q0_1), .second, .val (.long q0_2), .second, .val (.long q0_3), .second, .val (.long q0_4), .second, .val (.int p0_5), .val (.ref b1), .val (.long Y1), .second, .val (.long Y2), .second, .val (.long Y3), .second, .val (.int KD), .val (.ref b1), .unset] [(.int (1 : Int32))])) _
        refine XS.istore X8.here hx rfl (hb hby at_133) rfl (l' := #[.val (.long q0_0), .second, .val (.long q0_1), .second, .val (.long q0_2), .second, .val (.long q0_3), .second, .val (.long q0_4), .second, .val (.int p0_5), .val (.ref b1), .val (.long Y1), .second, .val (.long Y2), .second, .val (.long Y3), .second, .val (.int KD), .val (.ref b1), .val (.int (1 : Int32))]) rfl ?_
        show Steps p.tables e below (T8.setTop (mkF m 135 #[.val (.long q0_0), .second, .val (.long q0_1), .second, .val (.long q0_2), .second, .val (.long q0_3), .second, .val (.long q0_4), .second, .val (.int p0_5), .val (.ref b1), .val (.long Y1), .second, .val (.long Y2), .second, .val (.long Y3), .second, .val (.int KD), .val (.ref b1), .val (.int (1 : Int32))] [])) _
        refine XS.goto X8.here hx rfl (pc0 := 135) (pc' := 162) rfl (hb hby at_135) (by decide) (by decide) ?_
        show Steps p.tables e below (T8.setTop (mkF m 162 #[.val (.long q0_0), .second, .val (.long q0_1), .second, .val (.long q0_2), .second, .val (.long q0_3), .second, .val (.long q0_4), .second, .val (.int p0_5), .val (.ref b1), .val (.long Y1), .second, .val (.long Y2), .second, .val (.long Y3), .second, .val (.int KD), .val (.ref b1), .val (.int (1 : Int32))] [])) _
        refine XS.aload X8.here hx rfl (hb hby at_162) rfl rfl ?_
        show Steps p.tables e below (T8.setTop (mkF m 164 #[.val (.long q0_0), .second, .val (.long q0_1), .second, .val (.long q0_2), .second, .val (.long q0_3), .second, .val (.long q0_4), .second, .val (.int p0_5), .val (.ref b1), .val (.long Y1), .second, .val (.long Y2), .second, .val (.long Y3), .second, .val (.int KD), .val (.ref b1), .val (.int (1 : Int32))] [(.ref b1)])) _
        refine XS.aload X8.here hx rfl (hb hby at_164) rfl rfl ?_
        show Steps p.tables e below (T8.setTop (mkF m 166 #[.val (.long q0_0), .second, .val (.long q0_1), .second, .val (.long q0_2), .second, .val (.long q0_3), .second, .val (.long q0_4), .second, .val (.int p0_5), .val (.ref b1), .val (.long Y1), .second, .val (.long Y2), .second, .val (.long Y3), .second, .val (.int KD), .val (.ref b1), .val (.int (1 : Int32))] [(.ref b1), (.ref b1)])) _
        refine st75.trans ?_
        exact k)
      obtain ⟨fs, hr, hrun, hended, hW, hsame⟩ := X75.leave (v := some (.int (1 : Int32))) (fun h => by rw [Bd.returns] at h; cases h)
      refine ⟨_, _, pre77 _ ?_, hrun, hended, _, _, rfl, ?_, ⟨_, rfl⟩, hW, hsame.mono (by decide) (by decide)⟩
      · show Steps p.tables e below (T75.setTop (mkF m 169 #[.val (.long q0_0), .second, .val (.long q0_1), .second, .val (.long q0_2), .second, .val (.long q0_3), .second, .val (.long q0_4), .second, .val (.int p0_5), .val (.ref b1), .val (.long Y1), .second, .val (.long Y2), .second, .val (.long Y3), .second, .val (.int KD), .val (.ref b1), .val (.int (1 : Int32))] [(.int (1 : Int32))])) _
        refine XS.iload X75.here hx rfl (hb hby at_169) rfl ?_
        show Steps p.tables e below (T75.setTop (mkF m 171 #[.val (.long q0_0), .second, .val (.long q0_1), .second, .val (.long q0_2), .second, .val (.long q0_3), .second, .val (.long q0_4), .second, .val (.int p0_5), .val (.ref b1), .val (.long Y1), .second, .val (.long Y2), .second, .val (.long Y3), .second, .val (.int KD), .val (.ref b1), .val (.int (1 : Int32))] [(.int (1 : Int32)), (.int (1 : Int32))])) _
        refine XS.icmpNo X75.here hx rfl (hb hby at_171) rfl (teq (by decide : (1 : Int32) = (1 : Int32))).2 ?_
        show Steps p.tables e below (T75.setTop (mkF m 174 #[.val (.long q0_0), .second, .val (.long q0_1), .second, .val (.long q0_2), .second, .val (.long q0_3), .second, .val (.long q0_4), .second, .val (.int p0_5), .val (.ref b1), .val (.long Y1), .second, .val (.long Y2), .second, .val (.long Y3), .second, .val (.int KD), .val (.ref b1), .val (.int (1 : Int32))] [])) _
        refine XS.iconst X75.here hx rfl (hb hby at_174) ?_
        show Steps p.tables e below (T75.setTop (mkF m 175 #[.val (.long q0_0), .second, .val (.long q0_1), .second, .val (.long q0_2), .second, .val (.long q0_3), .second, .val (.long q0_4), .second, .val (.int p0_5), .val (.ref b1), .val (.long Y1), .second, .val (.long Y2), .second, .val (.long Y3), .second, .val (.int KD), .val (.ref b1), .val (.int (1 : Int32))] [(.int (1 : Int32))])) _
        refine XS.goto X75.here hx rfl (pc0 := 175) (pc' := 179) rfl (hb hby at_175) (by decide) (by decide) ?_
        show Steps p.tables e below (T75.setTop (mkF m 179 #[.val (.long q0_0), .second, .val (.long q0_1), .second, .val (.long q0_2), .second, .val (.long q0_3), .second, .val (.long q0_4), .second, .val (.int p0_5), .val (.ref b1), .val (.long Y1), .second, .val (.long Y2), .second, .val (.long Y3), .second, .val (.int KD), .val (.ref b1), .val (.int (1 : Int32))] [(.int (1 : Int32))])) _
        exact retN X75 hx (t := .boolean) Bd.returns (by simp) (hb hby at_179) hr
      · show Q0 Z q0_0 q0_1 q0_2 q0_3 q0_4 p0_5 w0_cache clc h0 n0 _ T75.heap _
        rw [e75]
        exact ⟨rfl, N76⟩
    · by_cases hc79 : KD = (2 : Int32)
      · obtain ⟨cq80, kq80, q80a, q80b, q80c⟩ := isOf hZ rfl r8_0
        obtain ⟨_, _, ⟨T80, L80, k80, n80⟩, -, X80, ⟨Lc80, hQ80, l80, y80, z80⟩, st80⟩ := X8.virtualBack hx (y := (⟨"com/example/nearlane/nearlane/model/Resources", "equals", "(Ljava/lang/Object;)Z"⟩ : MethodName)) (z := (⟨"com/example/nearlane/nearlane/model/Resources", "equals", "(Ljava/lang/Object;)Z"⟩ : MethodName)) hown (mvT hZ (hVV 20 _ rfl)) (mvT hZ (hVV 21 _ rfl)) (notFace_of_selects (args := #[]) (mvT hZ (hVV 23 _ rfl))) (mvT hZ (hVV 23 _ rfl)) (mvT hZ (hVV 22 _ rfl)) (by decide) (backOf (W := 0) (rm4_n l Z a0 hw [] b1 T8.heap n0 z12 ) hZ (hVV 24 _ rfl) (hVV 2 _ rfl) (by decide) (by decide)) q80a q80c (g := (mkF m 166 #[.val (.long q0_0), .second, .val (.long q0_1), .second, .val (.long q0_2), .second, .val (.long q0_3), .second, .val (.long q0_4), .second, .val (.int p0_5), .val (.ref b1), .val (.long Y1), .second, .val (.long Y2), .second, .val (.long Y3), .second, .val (.int KD), .val .null, .val (.int (0 : Int32))] [.null, (.ref b1)])) rfl (by rw [hml]; rfl) (Steps.refl _) (argsL := [.null]) (rest := []) (lenOf pd_3 rfl) rfl (by show 2 * 0 + _ ≤ _; exact Nat.le_of_eq rfl) (hb hby at_166) (fun _ _ => ⟨rfl, rfl, (by decide : 1 + 0 ≤ _), (by decide : 3 + 0 ≤ _)⟩)
        dsimp only [Pt.U, Pt.locs, Pt.cells, Pt.slots] at X80 l80 y80 z80 st80 hQ80
        subst l80 y80 z80
        obtain ⟨rfl, N80q, e80⟩ := hQ80
        have N81 := Fr.app N9 N80q
        have pre82 : ∀ t, Steps p.tables e below (T80.setTop (mkF m 169 #[.val (.long q0_0), .second, .val (.long q0_1), .second, .val (.long q0_2), .second, .val (.long q0_3), .second, .val (.long q0_4), .second, .val (.int p0_5), .val (.ref b1), .val (.long Y1), .second, .val (.long Y2), .second, .val (.long Y3), .second, .val (.int KD), .val .null, .val (.int (0 : Int32))] [(.int (0 : Int32))])) t → Steps p.tables e below (s₁.setTop (entryFrame m #[(.long q0_0), (.long q0_1), (.long q0_2), (.long q0_3), (.long q0_4), (.int p0_5)] maxLocals)) t := fun t k => pre34 t (by
          show Steps p.tables e below (T8.setTop (mkF m 70 #[.val (.long q0_0), .second, .val (.long q0_1), .second, .val (.long q0_2), .second, .val (.long q0_3), .second, .val (.long q0_4), .second, .val (.int p0_5), .val (.ref b1), .val (.long Y1), .second, .val (.long Y2), .second, .val (.long Y3), .second, .val (.int KD), .unset, .unset] [])) _
          refine XS.iload X8.here hx rfl (hb hby at_70) rfl ?_
          show Steps p.tables e below (T8.setTop (mkF m 72 #[.val (.long q0_0), .second, .val (.long q0_1), .second, .val (.long q0_2), .second, .val (.long q0_3), .second, .val (.long q0_4), .second, .val (.int p0_5), .val (.ref b1), .val (.long Y1), .second, .val (.long Y2), .second, .val (.long Y3), .second, .val (.int KD), .unset, .unset] [(.int KD)])) _
          refine XS.ifYes X8.here hx rfl (pc0 := 72) (pc' := 122) rfl (hb hby at_72) rfl ((if0 _ _).trans (feq hc36).2) (by decide) (by decide) ?_
          show Steps p.tables e below (T8.setTop (mkF m 122 #[.val (.long q0_0), .second, .val (.long q0_1), .second, .val (.long q0_2), .second, .val (.long q0_3), .second, .val (.long q0_4), .second, .val (.int p0_5), .val (.ref b1), .val (.long Y1), .second, .val (.long Y2), .second, .val (.long Y3), .second, .val (.int KD), .unset, .unset] [])) _
          refine XS.iload X8.here hx rfl (hb hby at_122) rfl ?_
          show Steps p.tables e below (T8.setTop (mkF m 124 #[.val (.long q0_0), .second, .val (.long q0_1), .second, .val (.long q0_2), .second, .val (.long q0_3), .second, .val (.long q0_4), .second, .val (.int p0_5), .val (.ref b1), .val (.long Y1), .second, .val (.long Y2), .second, .val (.long Y3), .second, .val (.int KD), .unset, .unset] [(.int KD)])) _
          refine XS.iconst X8.here hx rfl (hb hby at_124) ?_
          show Steps p.tables e below (T8.setTop (mkF m 125 #[.val (.long q0_0), .second, .val (.long q0_1), .second, .val (.long q0_2), .second, .val (.long q0_3), .second, .val (.long q0_4), .second, .val (.int p0_5), .val (.ref b1), .val (.long Y1), .second, .val (.long Y2), .second, .val (.long Y3), .second, .val (.int KD), .unset, .unset] [(.int (1 : Int32)), (.int KD)])) _
          refine XS.icmpYes X8.here hx rfl (pc0 := 125) (pc' := 138) rfl (hb hby at_125) rfl (feq hc74).2 (by decide) (by decide) ?_
          show Steps p.tables e below (T8.setTop (mkF m 138 #[.val (.long q0_0), .second, .val (.long q0_1), .second, .val (.long q0_2), .second, .val (.long q0_3), .second, .val (.long q0_4), .second, .val (.int p0_5), .val (.ref b1), .val (.long Y1), .second, .val (.long Y2), .second, .val (.long Y3), .second, .val (.int KD), .unset, .unset] [])) _
          refine XS.iload X8.here hx rfl (hb hby at_138) rfl ?_
          show Steps p.tables e below (T8.setTop (mkF m 140 #[.val (.long q0_0), .second, .val (.long q0_1), .second, .val (.long q0_2), .second, .val (.long q0_3), .second, .val (.long q0_4), .second, .val (.int p0_5), .val (.ref b1), .val (.long Y1), .second, .val (.long Y2), .second, .val (.long Y3), .second, .val (.int KD), .unset, .unset] [(.int KD)])) _
          refine XS.iconst X8.here hx rfl (hb hby at_140) ?_
          show Steps p.tables e below (T8.setTop (mkF m 141 #[.val (.long q0_0), .second, .val (.long q0_1), .second, .val (.long q0_2), .second, .val (.long q0_3), .second, .val (.long q0_4), .second, .val (.int p0_5), .val (.ref b1), .val (.long Y1), .second, .val (.long Y2), .second, .val (.long Y3), .second, .val (.int KD), .unset, .unset] [(.int (2 : Int32)), (.int KD)])) _
          refine XS.icmpNo X8.here hx rfl (hb hby at_141) rfl (teq hc79).2 ?_
          show Steps p.tables e below (T8.setTop (mkF m 144 #[.val (.long q0_0), .second, .val (.long q0_1), .second, .val (.long q0_2), .second, .val (.long q0_3), .second, .val (.long q0_4), .second, .val (.int p0_5), .val (.ref b1), .val (.long Y1), .second, .val (.long Y2), .second, .val (.long Y3), .second, .val (.int KD), .unset, .unset] [])) _
          refine XS.aconstNull X8.here hx rfl (hb hby at_144) ?_
          show Steps p.tables e below (T8.setTop (mkF m 145 #[.val (.long q0_0), .second, .val (.long q0_1), .second, .val (.long q0_2), .second, .val (.long q0_3), .second, .val (.long q0_4), .second, .val (.int p0_5), .val (.ref b1), .val (.long Y1), .second, .val (.long Y2), .second, .val (.long Y3), .second, .val (.int KD), .unset, .unset] [.null])) _
          refine XS.astore X8.here hx rfl (hb hby at_145) rfl rfl (l' := #[.val (.long q0_0), .second, .val (.long q0_1), .second, .val (.long q0_2), .second, .val (.long q0_3), .second, .val (.long q0_4), .second, .val (.int p0_5), .val (.ref b1), .val (.long Y1), .second, .val (.long Y2), .second, .val (.long Y3), .second, .val (.int KD), .val .null, .unset]) rfl ?_
          show Steps p.tables e below (T8.setTop (mkF m 147 #[.val (.long q0_0), .second, .val (.long q0_1), .second, .val (.long q0_2), .second, .val (.long q0_3), .second, .val (.long q0_4), .second, .val (.int p0_5), .val (.ref b1), .val (.long Y1), .second, .val (.long Y2), .second, .val (.long Y3), .second, .val (.int KD), .val .null, .unset] [])) _
          refine XS.iconst X8.here hx rfl (hb hby at_147) ?_
          show Steps p.tables e below (T8.setTop (mkF m 148 #[.val (.long q0_0), .second, .val (.long q0_1), .second, .val (.long q0_2), .second, .val (.long q0_3), .second, .val (.long q0_4), .second, .val (.int p0_5), .val (.ref b1), .val (.long Y1), .second, .val (.long Y2), .second, .val (.long Y3), .second, .val (.int KD), .val .null, .unset] [(.int (0 : Int32))])) _
          refine XS.istore X8.here hx rfl (hb hby at_148) rfl (l' := #[.val (.long q0_0), .second, .val (.long q0_1), .second, .val (.long q0_2), .second, .val (.long q0_3), .second, .val (.long q0_4), .second, .val (.int p0_5), .val (.ref b1), .val (.long Y1), .second, .val (.long Y2), .second, .val (.long Y3), .second, .val (.int KD), .val .null, .val (.int (0 : Int32))]) rfl ?_
          show Steps p.tables e below (T8.setTop (mkF m 150 #[.val (.long q0_0), .second, .val (.long q0_1), .second, .val (.long q0_2), .second, .val (.long q0_3), .second, .val (.long q0_4), .second, .val (.int p0_5), .val (.ref b1), .val (.long Y1), .second, .val (.long Y2), .second, .val (.long Y3), .second, .val (.int KD), .val .null, .val (.int (0 : Int32))] [])) _
          refine XS.goto X8.here hx rfl (pc0 := 150) (pc' := 162) rfl (hb hby at_150) (by decide) (by decide) ?_
          show Steps p.tables e below (T8.setTop (mkF m 162 #[.val (.long q0_0), .second, .val (.long q0_1), .second, .val (.long q0_2), .second, .val (.long q0_3), .second, .val (.long q0_4), .second, .val (.int p0_5), .val (.ref b1), .val (.long Y1), .second, .val (.long Y2), .second, .val (.long Y3), .second, .val (.int KD), .val .null, .val (.int (0 : Int32))] [])) _
          refine XS.aload X8.here hx rfl (hb hby at_162) rfl rfl ?_
          show Steps p.tables e below (T8.setTop (mkF m 164 #[.val (.long q0_0), .second, .val (.long q0_1), .second, .val (.long q0_2), .second, .val (.long q0_3), .second, .val (.long q0_4), .second, .val (.int p0_5), .val (.ref b1), .val (.long Y1), .second, .val (.long Y2), .second, .val (.long Y3), .second, .val (.int KD), .val .null, .val (.int (0 : Int32))] [(.ref b1)])) _
          refine XS.aload X8.here hx rfl (hb hby at_164) rfl rfl ?_
          show Steps p.tables e below (T8.setTop (mkF m 166 #[.val (.long q0_0), .second, .val (.long q0_1), .second, .val (.long q0_2), .second, .val (.long q0_3), .second, .val (.long q0_4), .second, .val (.int p0_5), .val (.ref b1), .val (.long Y1), .second, .val (.long Y2), .second, .val (.long Y3), .second, .val (.int KD), .val .null, .val (.int (0 : Int32))] [.null, (.ref b1)])) _
          refine st80.trans ?_
          exact k)
        obtain ⟨fs, hr, hrun, hended, hW, hsame⟩ := X80.leave (v := some (.int (1 : Int32))) (fun h => by rw [Bd.returns] at h; cases h)
        refine ⟨_, _, pre82 _ ?_, hrun, hended, _, _, rfl, ?_, ⟨_, rfl⟩, hW, hsame.mono (by decide) (by decide)⟩
        · show Steps p.tables e below (T80.setTop (mkF m 169 #[.val (.long q0_0), .second, .val (.long q0_1), .second, .val (.long q0_2), .second, .val (.long q0_3), .second, .val (.long q0_4), .second, .val (.int p0_5), .val (.ref b1), .val (.long Y1), .second, .val (.long Y2), .second, .val (.long Y3), .second, .val (.int KD), .val .null, .val (.int (0 : Int32))] [(.int (0 : Int32))])) _
          refine XS.iload X80.here hx rfl (hb hby at_169) rfl ?_
          show Steps p.tables e below (T80.setTop (mkF m 171 #[.val (.long q0_0), .second, .val (.long q0_1), .second, .val (.long q0_2), .second, .val (.long q0_3), .second, .val (.long q0_4), .second, .val (.int p0_5), .val (.ref b1), .val (.long Y1), .second, .val (.long Y2), .second, .val (.long Y3), .second, .val (.int KD), .val .null, .val (.int (0 : Int32))] [(.int (0 : Int32)), (.int (0 : Int32))])) _
          refine XS.icmpNo X80.here hx rfl (hb hby at_171) rfl (teq (by decide : (0 : Int32) = (0 : Int32))).2 ?_
          show Steps p.tables e below (T80.setTop (mkF m 174 #[.val (.long q0_0), .second, .val (.long q0_1), .second, .val (.long q0_2), .second, .val (.long q0_3), .second, .val (.long q0_4), .second, .val (.int p0_5), .val (.ref b1), .val (.long Y1), .second, .val (.long Y2), .second, .val (.long Y3), .second, .val (.int KD), .val .null, .val (.int (0 : Int32))] [])) _
          refine XS.iconst X80.here hx rfl (hb hby at_174) ?_
          show Steps p.tables e below (T80.setTop (mkF m 175 #[.val (.long q0_0), .second, .val (.long q0_1), .second, .val (.long q0_2), .second, .val (.long q0_3), .second, .val (.long q0_4), .second, .val (.int p0_5), .val (.ref b1), .val (.long Y1), .second, .val (.long Y2), .second, .val (.long Y3), .second, .val (.int KD), .val .null, .val (.int (0 : Int32))] [(.int (1 : Int32))])) _
          refine XS.goto X80.here hx rfl (pc0 := 175) (pc' := 179) rfl (hb hby at_175) (by decide) (by decide) ?_
          show Steps p.tables e below (T80.setTop (mkF m 179 #[.val (.long q0_0), .second, .val (.long q0_1), .second, .val (.long q0_2), .second, .val (.long q0_3), .second, .val (.long q0_4), .second, .val (.int p0_5), .val (.ref b1), .val (.long Y1), .second, .val (.long Y2), .second, .val (.long Y3), .second, .val (.int KD), .val .null, .val (.int (0 : Int32))] [(.int (1 : Int32))])) _
          exact retN X80 hx (t := .boolean) Bd.returns (by simp) (hb hby at_179) hr
        · show Q0 Z q0_0 q0_1 q0_2 q0_3 q0_4 p0_5 w0_cache clc h0 n0 _ T80.heap _
          rw [e80]
          exact ⟨rfl, N81⟩
      · by_cases hlo : q0_0 < (-128 : Int64)
        · obtain ⟨b84, g84⟩ : ∃ z, z = T8.heap.size := ⟨_, rfl⟩
          have gz84 : n0 ≤ b84 := Nat.le_trans z12 (Nat.le_of_eq g84.symm)
          have ne85 : b1 ≠ b84 := Nat.ne_of_lt (Nat.lt_of_lt_of_le r8_0.lt (Nat.le_of_eq g84.symm))
          have hq86 : q0_0 < (-128 : Int64) := by
            exact hlo
          obtain ⟨_, _, ⟨T83, L83, k83, n83⟩, -, X83, ⟨Lc83, hQ83, l83, y83, z83⟩, st83⟩ := Jvm.LawKit.callS X8 hx (y := (⟨"java/lang/Long", "valueOf", "(J)Ljava/lang/Long;"⟩ : MethodName)) hown (mvT hZ (hVV 27 _ rfl)) (mvT hZ (hVV 28 _ rfl)) (mvT hZ (hVV 29 _ rfl)) (mvT hZ (hVV 30 _ rfl)) (by decide) (backOf (W := 0) (rm5_lo l Z a0 hw [] q0_0 b84 T8.heap n0 z12 g84 hq86) hZ (hVV 30 _ rfl) (hVV 29 _ rfl) (by decide) (by decide)) (g := (mkF m 154 #[.val (.long q0_0), .second, .val (.long q0_1), .second, .val (.long q0_2), .second, .val (.long q0_3), .second, .val (.long q0_4), .second, .val (.int p0_5), .val (.ref b1), .val (.long Y1), .second, .val (.long Y2), .second, .val (.long Y3), .second, .val (.int KD), .unset, .unset] [(.long q0_0)])) rfl (by rw [hml]; rfl) (argsL := [(.long q0_0)]) (rest := []) (lenOf pd_4 rfl) rfl (by show 2 * 0 + _ ≤ _; exact Nat.le_of_eq rfl) (hb hby at_154) (fun _ _ => ⟨rfl, rfl, (by decide : 1 + 1 ≤ _), (by decide : 3 + 1 ≤ _)⟩)
          dsimp only [Pt.U, Pt.locs, Pt.cells, Pt.slots] at X83 l83 y83 z83 st83 hQ83
          subst l83 y83 z83
          obtain ⟨rfl, N83q, K83, r83_0⟩ := hQ83
          have N87 := Fr.app N9 N83q
          have pre88 : ∀ t, Steps p.tables e below (T83.setTop (mkF m 157 #[.val (.long q0_0), .second, .val (.long q0_1), .second, .val (.long q0_2), .second, .val (.long q0_3), .second, .val (.long q0_4), .second, .val (.int p0_5), .val (.ref b1), .val (.long Y1), .second, .val (.long Y2), .second, .val (.long Y3), .second, .val (.int KD), .unset, .unset] [(.ref b84)])) t → Steps p.tables e below (s₁.setTop (entryFrame m #[(.long q0_0), (.long q0_1), (.long q0_2), (.long q0_3), (.long q0_4), (.int p0_5)] maxLocals)) t := fun t k => pre34 t (by
            show Steps p.tables e below (T8.setTop (mkF m 70 #[.val (.long q0_0), .second, .val (.long q0_1), .second, .val (.long q0_2), .second, .val (.long q0_3), .second, .val (.long q0_4), .second, .val (.int p0_5), .val (.ref b1), .val (.long Y1), .second, .val (.long Y2), .second, .val (.long Y3), .second, .val (.int KD), .unset, .unset] [])) _
            refine XS.iload X8.here hx rfl (hb hby at_70) rfl ?_
            show Steps p.tables e below (T8.setTop (mkF m 72 #[.val (.long q0_0), .second, .val (.long q0_1), .second, .val (.long q0_2), .second, .val (.long q0_3), .second, .val (.long q0_4), .second, .val (.int p0_5), .val (.ref b1), .val (.long Y1), .second, .val (.long Y2), .second, .val (.long Y3), .second, .val (.int KD), .unset, .unset] [(.int KD)])) _
            refine XS.ifYes X8.here hx rfl (pc0 := 72) (pc' := 122) rfl (hb hby at_72) rfl ((if0 _ _).trans (feq hc36).2) (by decide) (by decide) ?_
            show Steps p.tables e below (T8.setTop (mkF m 122 #[.val (.long q0_0), .second, .val (.long q0_1), .second, .val (.long q0_2), .second, .val (.long q0_3), .second, .val (.long q0_4), .second, .val (.int p0_5), .val (.ref b1), .val (.long Y1), .second, .val (.long Y2), .second, .val (.long Y3), .second, .val (.int KD), .unset, .unset] [])) _
            refine XS.iload X8.here hx rfl (hb hby at_122) rfl ?_
            show Steps p.tables e below (T8.setTop (mkF m 124 #[.val (.long q0_0), .second, .val (.long q0_1), .second, .val (.long q0_2), .second, .val (.long q0_3), .second, .val (.long q0_4), .second, .val (.int p0_5), .val (.ref b1), .val (.long Y1), .second, .val (.long Y2), .second, .val (.long Y3), .second, .val (.int KD), .unset, .unset] [(.int KD)])) _
            refine XS.iconst X8.here hx rfl (hb hby at_124) ?_
            show Steps p.tables e below (T8.setTop (mkF m 125 #[.val (.long q0_0), .second, .val (.long q0_1), .second, .val (.long q0_2), .second, .val (.long q0_3), .second, .val (.long q0_4), .second, .val (.int p0_5), .val (.ref b1), .val (.long Y1), .second, .val (.long Y2), .second, .val (.long Y3), .second, .val (.int KD), .unset, .unset] [(.int (1 : Int32)), (.int KD)])) _
            refine XS.icmpYes X8.here hx rfl (pc0 := 125) (pc' := 138) rfl (hb hby at_125) rfl (feq hc74).2 (by decide) (by decide) ?_
            show Steps p.tables e below (T8.setTop (mkF m 138 #[.val (.long q0_0), .second, .val (.long q0_1), .second, .val (.long q0_2), .second, .val (.long q0_3), .second, .val (.long q0_4), .second, .val (.int p0_5), .val (.ref b1), .val (.long Y1), .second, .val (.long Y2), .second, .val (.long Y3), .second, .val (.int KD), .unset, .unset] [])) _
            refine XS.iload X8.here hx rfl (hb hby at_138) rfl ?_
            show Steps p.tables e below (T8.setTop (mkF m 140 #[.val (.long q0_0), .second, .val (.long q0_1), .second, .val (.long q0_2), .second, .val (.long q0_3), .second, .val (.long q0_4), .second, .val (.int p0_5), .val (.ref b1), .val (.long Y1), .second, .val (.long Y2), .second, .val (.long Y3), .second, .val (.int KD), .unset, .unset] [(.int KD)])) _
            refine XS.iconst X8.here hx rfl (hb hby at_140) ?_
            show Steps p.tables e below (T8.setTop (mkF m 141 #[.val (.long q0_0), .second, .val (.long q0_1), .second, .val (.long q0_2), .second, .val (.long q0_3), .second, .val (.long q0_4), .second, .val (.int p0_5), .val (.ref b1), .val (.long Y1), .second, .val (.long Y2), .second, .val (.long Y3), .second, .val (.int KD), .unset, .unset] [(.int (2 : Int32)), (.int KD)])) _
            refine XS.icmpYes X8.here hx rfl (pc0 := 141) (pc' := 153) rfl (hb hby at_141) rfl (feq hc79).2 (by decide) (by decide) ?_
            show Steps p.tables e below (T8.setTop (mkF m 153 #[.val (.long q0_0), .second, .val (.long q0_1), .second, .val (.long q0_2), .second, .val (.long q0_3), .second, .val (.long q0_4), .second, .val (.int p0_5), .val (.ref b1), .val (.long Y1), .second, .val (.long Y2), .second, .val (.long Y3), .second, .val (.int KD), .unset, .unset] [])) _
            refine XS.lloadN X8.here hx rfl (hb hby at_153) rfl ?_
            show Steps p.tables e below (T8.setTop (mkF m 154 #[.val (.long q0_0), .second, .val (.long q0_1), .second, .val (.long q0_2), .second, .val (.long q0_3), .second, .val (.long q0_4), .second, .val (.int p0_5), .val (.ref b1), .val (.long Y1), .second, .val (.long Y2), .second, .val (.long Y3), .second, .val (.int KD), .unset, .unset] [(.long q0_0)])) _
            refine st83 _ ?_
            exact k)
          have f89 := r8_0.keep K83
          have f90 := r8_1.keep K83 nin0
          have f91 := r8_2.keep K83 nin0
          have f92 := r8_3.keep K83 nin0
          have z93 := Nat.le_trans z12 K83.1
          have o94 := o13.keep K83 all0
          obtain ⟨cq95, kq95, q95a, q95b, q95c⟩ := isOf hZ rfl f89
          obtain ⟨_, _, ⟨T95, L95, k95, n95⟩, -, X95, ⟨Lc95, hQ95, l95, y95, z95⟩, st95⟩ := X83.virtualBack hx (y := (⟨"com/example/nearlane/nearlane/model/Resources", "equals", "(Ljava/lang/Object;)Z"⟩ : MethodName)) (z := (⟨"com/example/nearlane/nearlane/model/Resources", "equals", "(Ljava/lang/Object;)Z"⟩ : MethodName)) hown (mvT hZ (hVV 20 _ rfl)) (mvT hZ (hVV 21 _ rfl)) (notFace_of_selects (args := #[]) (mvT hZ (hVV 23 _ rfl))) (mvT hZ (hVV 23 _ rfl)) (mvT hZ (hVV 22 _ rfl)) (by decide) (backOf (W := 0) (rm4_l l Z a0 hw [] b1 b84 T83.heap n0 z93 r83_0 ne85) hZ (hVV 24 _ rfl) (hVV 2 _ rfl) (by decide) (by decide)) q95a q95c (g := (mkF m 166 #[.val (.long q0_0), .second, .val (.long q0_1), .second, .val (.long q0_2), .second, .val (.long q0_3), .second, .val (.long q0_4), .second, .val (.int p0_5), .val (.ref b1), .val (.long Y1), .second, .val (.long Y2), .second, .val (.long Y3), .second, .val (.int KD), .val (.ref b84), .val (.int (0 : Int32))] [(.ref b84), (.ref b1)])) rfl (by rw [hml]; rfl) (Steps.refl _) (argsL := [(.ref b84)]) (rest := []) (lenOf pd_3 rfl) rfl (by show 2 * 0 + _ ≤ _; exact Nat.le_of_eq rfl) (hb hby at_166) (fun _ _ => ⟨rfl, rfl, (by decide : 2 + 0 ≤ _), (by decide : 4 + 0 ≤ _)⟩)
          dsimp only [Pt.U, Pt.locs, Pt.cells, Pt.slots] at X95 l95 y95 z95 st95 hQ95
          subst l95 y95 z95
          obtain ⟨rfl, N95q, e95⟩ := hQ95
          have N96 := Fr.app N87 N95q
          have pre97 : ∀ t, Steps p.tables e below (T95.setTop (mkF m 169 #[.val (.long q0_0), .second, .val (.long q0_1), .second, .val (.long q0_2), .second, .val (.long q0_3), .second, .val (.long q0_4), .second, .val (.int p0_5), .val (.ref b1), .val (.long Y1), .second, .val (.long Y2), .second, .val (.long Y3), .second, .val (.int KD), .val (.ref b84), .val (.int (0 : Int32))] [(.int (0 : Int32))])) t → Steps p.tables e below (s₁.setTop (entryFrame m #[(.long q0_0), (.long q0_1), (.long q0_2), (.long q0_3), (.long q0_4), (.int p0_5)] maxLocals)) t := fun t k => pre88 t (by
            show Steps p.tables e below (T83.setTop (mkF m 157 #[.val (.long q0_0), .second, .val (.long q0_1), .second, .val (.long q0_2), .second, .val (.long q0_3), .second, .val (.long q0_4), .second, .val (.int p0_5), .val (.ref b1), .val (.long Y1), .second, .val (.long Y2), .second, .val (.long Y3), .second, .val (.int KD), .unset, .unset] [(.ref b84)])) _
            refine XS.astore X83.here hx rfl (hb hby at_157) rfl rfl (l' := #[.val (.long q0_0), .second, .val (.long q0_1), .second, .val (.long q0_2), .second, .val (.long q0_3), .second, .val (.long q0_4), .second, .val (.int p0_5), .val (.ref b1), .val (.long Y1), .second, .val (.long Y2), .second, .val (.long Y3), .second, .val (.int KD), .val (.ref b84), .unset]) rfl ?_
            show Steps p.tables e below (T83.setTop (mkF m 159 #[.val (.long q0_0), .second, .val (.long q0_1), .second, .val (.long q0_2), .second, .val (.long q0_3), .second, .val (.long q0_4), .second, .val (.int p0_5), .val (.ref b1), .val (.long Y1), .second, .val (.long Y2), .second, .val (.long Y3), .second, .val (.int KD), .val (.ref b84), .unset] [])) _
            refine XS.iconst X83.here hx rfl (hb hby at_159) ?_
            show Steps p.tables e below (T83.setTop (mkF m 160 #[.val (.long q0_0), .second, .val (.long q0_1), .second, .val (.long q0_2), .second, .val (.long q0_3), .second, .val (.long q0_4), .second, .val (.int p0_5), .val (.ref b1), .val (.long Y1), .second, .val (.long Y2), .second, .val (.long Y3), .second, .val (.int KD), .val (.ref b84), .unset] [(.int (0 : Int32))])) _
            refine XS.istore X83.here hx rfl (hb hby at_160) rfl (l' := #[.val (.long q0_0), .second, .val (.long q0_1), .second, .val (.long q0_2), .second, .val (.long q0_3), .second, .val (.long q0_4), .second, .val (.int p0_5), .val (.ref b1), .val (.long Y1), .second, .val (.long Y2), .second, .val (.long Y3), .second, .val (.int KD), .val (.ref b84), .val (.int (0 : Int32))]) rfl ?_
            show Steps p.tables e below (T83.setTop (mkF m 162 #[.val (.long q0_0), .second, .val (.long q0_1), .second, .val (.long q0_2), .second, .val (.long q0_3), .second, .val (.long q0_4), .second, .val (.int p0_5), .val (.ref b1), .val (.long Y1), .second, .val (.long Y2), .second, .val (.long Y3), .second, .val (.int KD), .val (.ref b84), .val (.int (0 : Int32))] [])) _
            refine XS.aload X83.here hx rfl (hb hby at_162) rfl rfl ?_
            show Steps p.tables e below (T83.setTop (mkF m 164 #[.val (.long q0_0), .second, .val (.long q0_1), .second, .val (.long q0_2), .second, .val (.long q0_3), .second, .val (.long q0_4), .second, .val (.int p0_5), .val (.ref b1), .val (.long Y1), .second, .val (.long Y2), .second, .val (.long Y3), .second, .val (.int KD), .val (.ref b84), .val (.int (0 : Int32))] [(.ref b1)])) _
            refine XS.aload X83.here hx rfl (hb hby at_164) rfl rfl ?_
            show Steps p.tables e below (T83.setTop (mkF m 166 #[.val (.long q0_0), .second, .val (.long q0_1), .second, .val (.long q0_2), .second, .val (.long q0_3), .second, .val (.long q0_4), .second, .val (.int p0_5), .val (.ref b1), .val (.long Y1), .second, .val (.long Y2), .second, .val (.long Y3), .second, .val (.int KD), .val (.ref b84), .val (.int (0 : Int32))] [(.ref b84), (.ref b1)])) _
            refine st95.trans ?_
            exact k)
          obtain ⟨fs, hr, hrun, hended, hW, hsame⟩ := X95.leave (v := some (.int (1 : Int32))) (fun h => by rw [Bd.returns] at h; cases h)
          refine ⟨_, _, pre97 _ ?_, hrun, hended, _, _, rfl, ?_, ⟨_, rfl⟩, hW, hsame.mono (by decide) (by decide)⟩
          · show Steps p.tables e below (T95.setTop (mkF m 169 #[.val (.long q0_0), .second, .val (.long q0_1), .second, .val (.long q0_2), .second, .val (.long q0_3), .second, .val (.long q0_4), .second, .val (.int p0_5), .val (.ref b1), .val (.long Y1), .second, .val (.long Y2), .second, .val (.long Y3), .second, .val (.int KD), .val (.ref b84), .val (.int (0 : Int32))] [(.int (0 : Int32))])) _
            refine XS.iload X95.here hx rfl (hb hby at_169) rfl ?_
            show Steps p.tables e below (T95.setTop (mkF m 171 #[.val (.long q0_0), .second, .val (.long q0_1), .second, .val (.long q0_2), .second, .val (.long q0_3), .second, .val (.long q0_4), .second, .val (.int p0_5), .val (.ref b1), .val (.long Y1), .second, .val (.long Y2), .second, .val (.long Y3), .second, .val (.int KD), .val (.ref b84), .val (.int (0 : Int32))] [(.int (0 : Int32)), (.int (0 : Int32))])) _
            refine XS.icmpNo X95.here hx rfl (hb hby at_171) rfl (teq (by decide : (0 : Int32) = (0 : Int32))).2 ?_
            show Steps p.tables e below (T95.setTop (mkF m 174 #[.val (.long q0_0), .second, .val (.long q0_1), .second, .val (.long q0_2), .second, .val (.long q0_3), .second, .val (.long q0_4), .second, .val (.int p0_5), .val (.ref b1), .val (.long Y1), .second, .val (.long Y2), .second, .val (.long Y3), .second, .val (.int KD), .val (.ref b84), .val (.int (0 : Int32))] [])) _
            refine XS.iconst X95.here hx rfl (hb hby at_174) ?_
            show Steps p.tables e below (T95.setTop (mkF m 175 #[.val (.long q0_0), .second, .val (.long q0_1), .second, .val (.long q0_2), .second, .val (.long q0_3), .second, .val (.long q0_4), .second, .val (.int p0_5), .val (.ref b1), .val (.long Y1), .second, .val (.long Y2), .second, .val (.long Y3), .second, .val (.int KD), .val (.ref b84), .val (.int (0 : Int32))] [(.int (1 : Int32))])) _
            refine XS.goto X95.here hx rfl (pc0 := 175) (pc' := 179) rfl (hb hby at_175) (by decide) (by decide) ?_
            show Steps p.tables e below (T95.setTop (mkF m 179 #[.val (.long q0_0), .second, .val (.long q0_1), .second, .val (.long q0_2), .second, .val (.long q0_3), .second, .val (.long q0_4), .second, .val (.int p0_5), .val (.ref b1), .val (.long Y1), .second, .val (.long Y2), .second, .val (.long Y3), .second, .val (.int KD), .val (.ref b84), .val (.int (0 : Int32))] [(.int (1 : Int32))])) _
            exact retN X95 hx (t := .boolean) Bd.returns (by simp) (hb hby at_179) hr
          · show Q0 Z q0_0 q0_1 q0_2 q0_3 q0_4 p0_5 w0_cache clc h0 n0 _ T95.heap _
            rw [e95]
            exact ⟨rfl, N96⟩
        · by_cases hhi : (127 : Int64) < q0_0
          · obtain ⟨b99, g99⟩ : ∃ z, z = T8.heap.size := ⟨_, rfl⟩
            have gz99 : n0 ≤ b99 := Nat.le_trans z12 (Nat.le_of_eq g99.symm)
            have ne100 : b1 ≠ b99 := Nat.ne_of_lt (Nat.lt_of_lt_of_le r8_0.lt (Nat.le_of_eq g99.symm))
            have hq101 : ¬ (q0_0 < (-128 : Int64)) := by
              exact hlo
            have hq102 : (127 : Int64) < q0_0 := by
              exact hhi
            obtain ⟨_, _, ⟨T98, L98, k98, n98⟩, -, X98, ⟨Lc98, hQ98, l98, y98, z98⟩, st98⟩ := Jvm.LawKit.callS X8 hx (y := (⟨"java/lang/Long", "valueOf", "(J)Ljava/lang/Long;"⟩ : MethodName)) hown (mvT hZ (hVV 27 _ rfl)) (mvT hZ (hVV 28 _ rfl)) (mvT hZ (hVV 29 _ rfl)) (mvT hZ (hVV 30 _ rfl)) (by decide) (backOf (W := 0) (rm5_hi l Z a0 hw [] q0_0 b99 T8.heap n0 z12 g99 hq101 hq102) hZ (hVV 30 _ rfl) (hVV 29 _ rfl) (by decide) (by decide)) (g := (mkF m 154 #[.val (.long q0_0), .second, .val (.long q0_1), .second, .val (.long q0_2), .second, .val (.long q0_3), .second, .val (.long q0_4), .second, .val (.int p0_5), .val (.ref b1), .val (.long Y1), .second, .val (.long Y2), .second, .val (.long Y3), .second, .val (.int KD), .unset, .unset] [(.long q0_0)])) rfl (by rw [hml]; rfl) (argsL := [(.long q0_0)]) (rest := []) (lenOf pd_4 rfl) rfl (by show 2 * 0 + _ ≤ _; exact Nat.le_of_eq rfl) (hb hby at_154) (fun _ _ => ⟨rfl, rfl, (by decide : 1 + 1 ≤ _), (by decide : 3 + 1 ≤ _)⟩)
            dsimp only [Pt.U, Pt.locs, Pt.cells, Pt.slots] at X98 l98 y98 z98 st98 hQ98
            subst l98 y98 z98
            obtain ⟨rfl, N98q, K98, r98_0⟩ := hQ98
            have N103 := Fr.app N9 N98q
            have pre104 : ∀ t, Steps p.tables e below (T98.setTop (mkF m 157 #[.val (.long q0_0), .second, .val (.long q0_1), .second, .val (.long q0_2), .second, .val (.long q0_3), .second, .val (.long q0_4), .second, .val (.int p0_5), .val (.ref b1), .val (.long Y1), .second, .val (.long Y2), .second, .val (.long Y3), .second, .val (.int KD), .unset, .unset] [(.ref b99)])) t → Steps p.tables e below (s₁.setTop (entryFrame m #[(.long q0_0), (.long q0_1), (.long q0_2), (.long q0_3), (.long q0_4), (.int p0_5)] maxLocals)) t := fun t k => pre34 t (by
              show Steps p.tables e below (T8.setTop (mkF m 70 #[.val (.long q0_0), .second, .val (.long q0_1), .second, .val (.long q0_2), .second, .val (.long q0_3), .second, .val (.long q0_4), .second, .val (.int p0_5), .val (.ref b1), .val (.long Y1), .second, .val (.long Y2), .second, .val (.long Y3), .second, .val (.int KD), .unset, .unset] [])) _
              refine XS.iload X8.here hx rfl (hb hby at_70) rfl ?_
              show Steps p.tables e below (T8.setTop (mkF m 72 #[.val (.long q0_0), .second, .val (.long q0_1), .second, .val (.long q0_2), .second, .val (.long q0_3), .second, .val (.long q0_4), .second, .val (.int p0_5), .val (.ref b1), .val (.long Y1), .second, .val (.long Y2), .second, .val (.long Y3), .second, .val (.int KD), .unset, .unset] [(.int KD)])) _
              refine XS.ifYes X8.here hx rfl (pc0 := 72) (pc' := 122) rfl (hb hby at_72) rfl ((if0 _ _).trans (feq hc36).2) (by decide) (by decide) ?_
              show Steps p.tables e below (T8.setTop (mkF m 122 #[.val (.long q0_0), .second, .val (.long q0_1), .second, .val (.long q0_2), .second, .val (.long q0_3), .second, .val (.long q0_4), .second, .val (.int p0_5), .val (.ref b1), .val (.long Y1), .second, .val (.long Y2), .second, .val (.long Y3), .second, .val (.int KD), .unset, .unset] [])) _
              refine XS.iload X8.here hx rfl (hb hby at_122) rfl ?_
              show Steps p.tables e below (T8.setTop (mkF m 124 #[.val (.long q0_0), .second, .val (.long q0_1), .second, .val (.long q0_2), .second, .val (.long q0_3), .second, .val (.long q0_4), .second, .val (.int p0_5), .val (.ref b1), .val (.long Y1), .second, .val (.long Y2), .second, .val (.long Y3), .second, .val (.int KD), .unset, .unset] [(.int KD)])) _
              refine XS.iconst X8.here hx rfl (hb hby at_124) ?_
              show Steps p.tables e below (T8.setTop (mkF m 125 #[.val (.long q0_0), .second, .val (.long q0_1), .second, .val (.long q0_2), .second, .val (.long q0_3), .second, .val (.long q0_4), .second, .val (.int p0_5), .val (.ref b1), .val (.long Y1), .second, .val (.long Y2), .second, .val (.long Y3), .second, .val (.int KD), .unset, .unset] [(.int (1 : Int32)), (.int KD)])) _
              refine XS.icmpYes X8.here hx rfl (pc0 := 125) (pc' := 138) rfl (hb hby at_125) rfl (feq hc74).2 (by decide) (by decide) ?_
              show Steps p.tables e below (T8.setTop (mkF m 138 #[.val (.long q0_0), .second, .val (.long q0_1), .second, .val (.long q0_2), .second, .val (.long q0_3), .second, .val (.long q0_4), .second, .val (.int p0_5), .val (.ref b1), .val (.long Y1), .second, .val (.long Y2), .second, .val (.long Y3), .second, .val (.int KD), .unset, .unset] [])) _
              refine XS.iload X8.here hx rfl (hb hby at_138) rfl ?_
              show Steps p.tables e below (T8.setTop (mkF m 140 #[.val (.long q0_0), .second, .val (.long q0_1), .second, .val (.long q0_2), .second, .val (.long q0_3), .second, .val (.long q0_4), .second, .val (.int p0_5), .val (.ref b1), .val (.long Y1), .second, .val (.long Y2), .second, .val (.long Y3), .second, .val (.int KD), .unset, .unset] [(.int KD)])) _
              refine XS.iconst X8.here hx rfl (hb hby at_140) ?_
              show Steps p.tables e below (T8.setTop (mkF m 141 #[.val (.long q0_0), .second, .val (.long q0_1), .second, .val (.long q0_2), .second, .val (.long q0_3), .second, .val (.long q0_4), .second, .val (.int p0_5), .val (.ref b1), .val (.long Y1), .second, .val (.long Y2), .second, .val (.long Y3), .second, .val (.int KD), .unset, .unset] [(.int (2 : Int32)), (.int KD)])) _
              refine XS.icmpYes X8.here hx rfl (pc0 := 141) (pc' := 153) rfl (hb hby at_141) rfl (feq hc79).2 (by decide) (by decide) ?_
              show Steps p.tables e below (T8.setTop (mkF m 153 #[.val (.long q0_0), .second, .val (.long q0_1), .second, .val (.long q0_2), .second, .val (.long q0_3), .second, .val (.long q0_4), .second, .val (.int p0_5), .val (.ref b1), .val (.long Y1), .second, .val (.long Y2), .second, .val (.long Y3), .second, .val (.int KD), .unset, .unset] [])) _
              refine XS.lloadN X8.here hx rfl (hb hby at_153) rfl ?_
              show Steps p.tables e below (T8.setTop (mkF m 154 #[.val (.long q0_0), .second, .val (.long q0_1), .second, .val (.long q0_2), .second, .val (.long q0_3), .second, .val (.long q0_4), .second, .val (.int p0_5), .val (.ref b1), .val (.long Y1), .second, .val (.long Y2), .second, .val (.long Y3), .second, .val (.int KD), .unset, .unset] [(.long q0_0)])) _
              refine st98 _ ?_
              exact k)
            have f105 := r8_0.keep K98
            have f106 := r8_1.keep K98 nin0
            have f107 := r8_2.keep K98 nin0
            have f108 := r8_3.keep K98 nin0
            have z109 := Nat.le_trans z12 K98.1
            have o110 := o13.keep K98 all0
            obtain ⟨cq111, kq111, q111a, q111b, q111c⟩ := isOf hZ rfl f105
            obtain ⟨_, _, ⟨T111, L111, k111, n111⟩, -, X111, ⟨Lc111, hQ111, l111, y111, z111⟩, st111⟩ := X98.virtualBack hx (y := (⟨"com/example/nearlane/nearlane/model/Resources", "equals", "(Ljava/lang/Object;)Z"⟩ : MethodName)) (z := (⟨"com/example/nearlane/nearlane/model/Resources", "equals", "(Ljava/lang/Object;)Z"⟩ : MethodName)) hown (mvT hZ (hVV 20 _ rfl)) (mvT hZ (hVV 21 _ rfl)) (notFace_of_selects (args := #[]) (mvT hZ (hVV 23 _ rfl))) (mvT hZ (hVV 23 _ rfl)) (mvT hZ (hVV 22 _ rfl)) (by decide) (backOf (W := 0) (rm4_l l Z a0 hw [] b1 b99 T98.heap n0 z109 r98_0 ne100) hZ (hVV 24 _ rfl) (hVV 2 _ rfl) (by decide) (by decide)) q111a q111c (g := (mkF m 166 #[.val (.long q0_0), .second, .val (.long q0_1), .second, .val (.long q0_2), .second, .val (.long q0_3), .second, .val (.long q0_4), .second, .val (.int p0_5), .val (.ref b1), .val (.long Y1), .second, .val (.long Y2), .second, .val (.long Y3), .second, .val (.int KD), .val (.ref b99), .val (.int (0 : Int32))] [(.ref b99), (.ref b1)])) rfl (by rw [hml]; rfl) (Steps.refl _) (argsL := [(.ref b99)]) (rest := []) (lenOf pd_3 rfl) rfl (by show 2 * 0 + _ ≤ _; exact Nat.le_of_eq rfl) (hb hby at_166) (fun _ _ => ⟨rfl, rfl, (by decide : 2 + 0 ≤ _), (by decide : 4 + 0 ≤ _)⟩)
            dsimp only [Pt.U, Pt.locs, Pt.cells, Pt.slots] at X111 l111 y111 z111 st111 hQ111
            subst l111 y111 z111
            obtain ⟨rfl, N111q, e111⟩ := hQ111
            have N112 := Fr.app N103 N111q
            have pre113 : ∀ t, Steps p.tables e below (T111.setTop (mkF m 169 #[.val (.long q0_0), .second, .val (.long q0_1), .second, .val (.long q0_2), .second, .val (.long q0_3), .second, .val (.long q0_4), .second, .val (.int p0_5), .val (.ref b1), .val (.long Y1), .second, .val (.long Y2), .second, .val (.long Y3), .second, .val (.int KD), .val (.ref b99), .val (.int (0 : Int32))] [(.int (0 : Int32))])) t → Steps p.tables e below (s₁.setTop (entryFrame m #[(.long q0_0), (.long q0_1), (.long q0_2), (.long q0_3), (.long q0_4), (.int p0_5)] maxLocals)) t := fun t k => pre104 t (by
              show Steps p.tables e below (T98.setTop (mkF m 157 #[.val (.long q0_0), .second, .val (.long q0_1), .second, .val (.long q0_2), .second, .val (.long q0_3), .second, .val (.long q0_4), .second, .val (.int p0_5), .val (.ref b1), .val (.long Y1), .second, .val (.long Y2), .second, .val (.long Y3), .second, .val (.int KD), .unset, .unset] [(.ref b99)])) _
              refine XS.astore X98.here hx rfl (hb hby at_157) rfl rfl (l' := #[.val (.long q0_0), .second, .val (.long q0_1), .second, .val (.long q0_2), .second, .val (.long q0_3), .second, .val (.long q0_4), .second, .val (.int p0_5), .val (.ref b1), .val (.long Y1), .second, .val (.long Y2), .second, .val (.long Y3), .second, .val (.int KD), .val (.ref b99), .unset]) rfl ?_
              show Steps p.tables e below (T98.setTop (mkF m 159 #[.val (.long q0_0), .second, .val (.long q0_1), .second, .val (.long q0_2), .second, .val (.long q0_3), .second, .val (.long q0_4), .second, .val (.int p0_5), .val (.ref b1), .val (.long Y1), .second, .val (.long Y2), .second, .val (.long Y3), .second, .val (.int KD), .val (.ref b99), .unset] [])) _
              refine XS.iconst X98.here hx rfl (hb hby at_159) ?_
              show Steps p.tables e below (T98.setTop (mkF m 160 #[.val (.long q0_0), .second, .val (.long q0_1), .second, .val (.long q0_2), .second, .val (.long q0_3), .second, .val (.long q0_4), .second, .val (.int p0_5), .val (.ref b1), .val (.long Y1), .second, .val (.long Y2), .second, .val (.long Y3), .second, .val (.int KD), .val (.ref b99), .unset] [(.int (0 : Int32))])) _
              refine XS.istore X98.here hx rfl (hb hby at_160) rfl (l' := #[.val (.long q0_0), .second, .val (.long q0_1), .second, .val (.long q0_2), .second, .val (.long q0_3), .second, .val (.long q0_4), .second, .val (.int p0_5), .val (.ref b1), .val (.long Y1), .second, .val (.long Y2), .second, .val (.long Y3), .second, .val (.int KD), .val (.ref b99), .val (.int (0 : Int32))]) rfl ?_
              show Steps p.tables e below (T98.setTop (mkF m 162 #[.val (.long q0_0), .second, .val (.long q0_1), .second, .val (.long q0_2), .second, .val (.long q0_3), .second, .val (.long q0_4), .second, .val (.int p0_5), .val (.ref b1), .val (.long Y1), .second, .val (.long Y2), .second, .val (.long Y3), .second, .val (.int KD), .val (.ref b99), .val (.int (0 : Int32))] [])) _
              refine XS.aload X98.here hx rfl (hb hby at_162) rfl rfl ?_
              show Steps p.tables e below (T98.setTop (mkF m 164 #[.val (.long q0_0), .second, .val (.long q0_1), .second, .val (.long q0_2), .second, .val (.long q0_3), .second, .val (.long q0_4), .second, .val (.int p0_5), .val (.ref b1), .val (.long Y1), .second, .val (.long Y2), .second, .val (.long Y3), .second, .val (.int KD), .val (.ref b99), .val (.int (0 : Int32))] [(.ref b1)])) _
              refine XS.aload X98.here hx rfl (hb hby at_164) rfl rfl ?_
              show Steps p.tables e below (T98.setTop (mkF m 166 #[.val (.long q0_0), .second, .val (.long q0_1), .second, .val (.long q0_2), .second, .val (.long q0_3), .second, .val (.long q0_4), .second, .val (.int p0_5), .val (.ref b1), .val (.long Y1), .second, .val (.long Y2), .second, .val (.long Y3), .second, .val (.int KD), .val (.ref b99), .val (.int (0 : Int32))] [(.ref b99), (.ref b1)])) _
              refine st111.trans ?_
              exact k)
            obtain ⟨fs, hr, hrun, hended, hW, hsame⟩ := X111.leave (v := some (.int (1 : Int32))) (fun h => by rw [Bd.returns] at h; cases h)
            refine ⟨_, _, pre113 _ ?_, hrun, hended, _, _, rfl, ?_, ⟨_, rfl⟩, hW, hsame.mono (by decide) (by decide)⟩
            · show Steps p.tables e below (T111.setTop (mkF m 169 #[.val (.long q0_0), .second, .val (.long q0_1), .second, .val (.long q0_2), .second, .val (.long q0_3), .second, .val (.long q0_4), .second, .val (.int p0_5), .val (.ref b1), .val (.long Y1), .second, .val (.long Y2), .second, .val (.long Y3), .second, .val (.int KD), .val (.ref b99), .val (.int (0 : Int32))] [(.int (0 : Int32))])) _
              refine XS.iload X111.here hx rfl (hb hby at_169) rfl ?_
              show Steps p.tables e below (T111.setTop (mkF m 171 #[.val (.long q0_0), .second, .val (.long q0_1), .second, .val (.long q0_2), .second, .val (.long q0_3), .second, .val (.long q0_4), .second, .val (.int p0_5), .val (.ref b1), .val (.long Y1), .second, .val (.long Y2), .second, .val (.long Y3), .second, .val (.int KD), .val (.ref b99), .val (.int (0 : Int32))] [(.int (0 : Int32)), (.int (0 : Int32))])) _
              refine XS.icmpNo X111.here hx rfl (hb hby at_171) rfl (teq (by decide : (0 : Int32) = (0 : Int32))).2 ?_
              show Steps p.tables e below (T111.setTop (mkF m 174 #[.val (.long q0_0), .second, .val (.long q0_1), .second, .val (.long q0_2), .second, .val (.long q0_3), .second, .val (.long q0_4), .second, .val (.int p0_5), .val (.ref b1), .val (.long Y1), .second, .val (.long Y2), .second, .val (.long Y3), .second, .val (.int KD), .val (.ref b99), .val (.int (0 : Int32))] [])) _
              refine XS.iconst X111.here hx rfl (hb hby at_174) ?_
              show Steps p.tables e below (T111.setTop (mkF m 175 #[.val (.long q0_0), .second, .val (.long q0_1), .second, .val (.long q0_2), .second, .val (.long q0_3), .second, .val (.long q0_4), .second, .val (.int p0_5), .val (.ref b1), .val (.long Y1), .second, .val (.long Y2), .second, .val (.long Y3), .second, .val (.int KD), .val (.ref b99), .val (.int (0 : Int32))] [(.int (1 : Int32))])) _
              refine XS.goto X111.here hx rfl (pc0 := 175) (pc' := 179) rfl (hb hby at_175) (by decide) (by decide) ?_
              show Steps p.tables e below (T111.setTop (mkF m 179 #[.val (.long q0_0), .second, .val (.long q0_1), .second, .val (.long q0_2), .second, .val (.long q0_3), .second, .val (.long q0_4), .second, .val (.int p0_5), .val (.ref b1), .val (.long Y1), .second, .val (.long Y2), .second, .val (.long Y3), .second, .val (.int KD), .val (.ref b99), .val (.int (0 : Int32))] [(.int (1 : Int32))])) _
              exact retN X111 hx (t := .boolean) Bd.returns (by simp) (hb hby at_179) hr
            · show Q0 Z q0_0 q0_1 q0_2 q0_3 q0_4 p0_5 w0_cache clc h0 n0 _ T111.heap _
              rw [e111]
              exact ⟨rfl, N112⟩
          · obtain ⟨b115, at115, ex115⟩ := HALL ((q0_0.toInt32) + (128 : Int32)) (by rw [HSZ]; exact own_ix _ hlo hhi)
            have ey115 := ex115.ext o13.2
            have nz115 : b1 ≠ b115 := ne_exa r8_0 ey115 (by decide)
            have hq116 : ¬ (q0_0 < (-128 : Int64)) := by
              exact hlo
            have hq117 : ¬ ((127 : Int64) < q0_0) := by
              exact hhi
            obtain ⟨_, _, ⟨T114, L114, k114, n114⟩, -, X114, ⟨Lc114, hQ114, l114, y114, z114⟩, st114⟩ := Jvm.LawKit.callS X8 hx (y := (⟨"java/lang/Long", "valueOf", "(J)Ljava/lang/Long;"⟩ : MethodName)) hown (mvT hZ (hVV 27 _ rfl)) (mvT hZ (hVV 28 _ rfl)) (mvT hZ (hVV 29 _ rfl)) (mvT hZ (hVV 30 _ rfl)) (by decide) (backOf (W := 0) (rm5_c l Z a0 hw [] q0_0 w0_cache clc b115 T8.heap n0 z12 o13 S_cache ARC (by rw [HSZ]; exact own_ix _ hlo hhi) at115 hq116 hq117) hZ (hVV 30 _ rfl) (hVV 29 _ rfl) (by decide) (by decide)) (g := (mkF m 154 #[.val (.long q0_0), .second, .val (.long q0_1), .second, .val (.long q0_2), .second, .val (.long q0_3), .second, .val (.long q0_4), .second, .val (.int p0_5), .val (.ref b1), .val (.long Y1), .second, .val (.long Y2), .second, .val (.long Y3), .second, .val (.int KD), .unset, .unset] [(.long q0_0)])) rfl (by rw [hml]; rfl) (argsL := [(.long q0_0)]) (rest := []) (lenOf pd_4 rfl) rfl (by show 2 * 0 + _ ≤ _; exact Nat.le_of_eq rfl) (hb hby at_154) (fun _ _ => ⟨rfl, rfl, (by decide : 1 + 0 ≤ _), (by decide : 3 + 0 ≤ _)⟩)
            dsimp only [Pt.U, Pt.locs, Pt.cells, Pt.slots] at X114 l114 y114 z114 st114 hQ114
            subst l114 y114 z114
            obtain ⟨rfl, N114q, e114⟩ := hQ114
            have N118 := Fr.app N9 N114q
            have pre119 : ∀ t, Steps p.tables e below (T114.setTop (mkF m 157 #[.val (.long q0_0), .second, .val (.long q0_1), .second, .val (.long q0_2), .second, .val (.long q0_3), .second, .val (.long q0_4), .second, .val (.int p0_5), .val (.ref b1), .val (.long Y1), .second, .val (.long Y2), .second, .val (.long Y3), .second, .val (.int KD), .unset, .unset] [(.ref b115)])) t → Steps p.tables e below (s₁.setTop (entryFrame m #[(.long q0_0), (.long q0_1), (.long q0_2), (.long q0_3), (.long q0_4), (.int p0_5)] maxLocals)) t := fun t k => pre34 t (by
              show Steps p.tables e below (T8.setTop (mkF m 70 #[.val (.long q0_0), .second, .val (.long q0_1), .second, .val (.long q0_2), .second, .val (.long q0_3), .second, .val (.long q0_4), .second, .val (.int p0_5), .val (.ref b1), .val (.long Y1), .second, .val (.long Y2), .second, .val (.long Y3), .second, .val (.int KD), .unset, .unset] [])) _
              refine XS.iload X8.here hx rfl (hb hby at_70) rfl ?_
              show Steps p.tables e below (T8.setTop (mkF m 72 #[.val (.long q0_0), .second, .val (.long q0_1), .second, .val (.long q0_2), .second, .val (.long q0_3), .second, .val (.long q0_4), .second, .val (.int p0_5), .val (.ref b1), .val (.long Y1), .second, .val (.long Y2), .second, .val (.long Y3), .second, .val (.int KD), .unset, .unset] [(.int KD)])) _
              refine XS.ifYes X8.here hx rfl (pc0 := 72) (pc' := 122) rfl (hb hby at_72) rfl ((if0 _ _).trans (feq hc36).2) (by decide) (by decide) ?_
              show Steps p.tables e below (T8.setTop (mkF m 122 #[.val (.long q0_0), .second, .val (.long q0_1), .second, .val (.long q0_2), .second, .val (.long q0_3), .second, .val (.long q0_4), .second, .val (.int p0_5), .val (.ref b1), .val (.long Y1), .second, .val (.long Y2), .second, .val (.long Y3), .second, .val (.int KD), .unset, .unset] [])) _
              refine XS.iload X8.here hx rfl (hb hby at_122) rfl ?_
              show Steps p.tables e below (T8.setTop (mkF m 124 #[.val (.long q0_0), .second, .val (.long q0_1), .second, .val (.long q0_2), .second, .val (.long q0_3), .second, .val (.long q0_4), .second, .val (.int p0_5), .val (.ref b1), .val (.long Y1), .second, .val (.long Y2), .second, .val (.long Y3), .second, .val (.int KD), .unset, .unset] [(.int KD)])) _
              refine XS.iconst X8.here hx rfl (hb hby at_124) ?_
              show Steps p.tables e below (T8.setTop (mkF m 125 #[.val (.long q0_0), .second, .val (.long q0_1), .second, .val (.long q0_2), .second, .val (.long q0_3), .second, .val (.long q0_4), .second, .val (.int p0_5), .val (.ref b1), .val (.long Y1), .second, .val (.long Y2), .second, .val (.long Y3), .second, .val (.int KD), .unset, .unset] [(.int (1 : Int32)), (.int KD)])) _
              refine XS.icmpYes X8.here hx rfl (pc0 := 125) (pc' := 138) rfl (hb hby at_125) rfl (feq hc74).2 (by decide) (by decide) ?_
              show Steps p.tables e below (T8.setTop (mkF m 138 #[.val (.long q0_0), .second, .val (.long q0_1), .second, .val (.long q0_2), .second, .val (.long q0_3), .second, .val (.long q0_4), .second, .val (.int p0_5), .val (.ref b1), .val (.long Y1), .second, .val (.long Y2), .second, .val (.long Y3), .second, .val (.int KD), .unset, .unset] [])) _
              refine XS.iload X8.here hx rfl (hb hby at_138) rfl ?_
              show Steps p.tables e below (T8.setTop (mkF m 140 #[.val (.long q0_0), .second, .val (.long q0_1), .second, .val (.long q0_2), .second, .val (.long q0_3), .second, .val (.long q0_4), .second, .val (.int p0_5), .val (.ref b1), .val (.long Y1), .second, .val (.long Y2), .second, .val (.long Y3), .second, .val (.int KD), .unset, .unset] [(.int KD)])) _
              refine XS.iconst X8.here hx rfl (hb hby at_140) ?_
              show Steps p.tables e below (T8.setTop (mkF m 141 #[.val (.long q0_0), .second, .val (.long q0_1), .second, .val (.long q0_2), .second, .val (.long q0_3), .second, .val (.long q0_4), .second, .val (.int p0_5), .val (.ref b1), .val (.long Y1), .second, .val (.long Y2), .second, .val (.long Y3), .second, .val (.int KD), .unset, .unset] [(.int (2 : Int32)), (.int KD)])) _
              refine XS.icmpYes X8.here hx rfl (pc0 := 141) (pc' := 153) rfl (hb hby at_141) rfl (feq hc79).2 (by decide) (by decide) ?_
              show Steps p.tables e below (T8.setTop (mkF m 153 #[.val (.long q0_0), .second, .val (.long q0_1), .second, .val (.long q0_2), .second, .val (.long q0_3), .second, .val (.long q0_4), .second, .val (.int p0_5), .val (.ref b1), .val (.long Y1), .second, .val (.long Y2), .second, .val (.long Y3), .second, .val (.int KD), .unset, .unset] [])) _
              refine XS.lloadN X8.here hx rfl (hb hby at_153) rfl ?_
              show Steps p.tables e below (T8.setTop (mkF m 154 #[.val (.long q0_0), .second, .val (.long q0_1), .second, .val (.long q0_2), .second, .val (.long q0_3), .second, .val (.long q0_4), .second, .val (.int p0_5), .val (.ref b1), .val (.long Y1), .second, .val (.long Y2), .second, .val (.long Y3), .second, .val (.int KD), .unset, .unset] [(.long q0_0)])) _
              refine st114 _ ?_
              exact k)
            obtain ⟨cq120, kq120, q120a, q120b, q120c⟩ := isOf hZ e114 r8_0
            obtain ⟨_, _, ⟨T120, L120, k120, n120⟩, -, X120, ⟨Lc120, hQ120, l120, y120, z120⟩, st120⟩ := X114.virtualBack hx (y := (⟨"com/example/nearlane/nearlane/model/Resources", "equals", "(Ljava/lang/Object;)Z"⟩ : MethodName)) (z := (⟨"com/example/nearlane/nearlane/model/Resources", "equals", "(Ljava/lang/Object;)Z"⟩ : MethodName)) hown (mvT hZ (hVV 20 _ rfl)) (mvT hZ (hVV 21 _ rfl)) (notFace_of_selects (args := #[]) (mvT hZ (hVV 23 _ rfl))) (mvT hZ (hVV 23 _ rfl)) (mvT hZ (hVV 22 _ rfl)) (by decide) (backOf (W := 0) (rm4_l l Z a0 hw [] b1 b115 T8.heap n0 z12 ey115 nz115) hZ (hVV 24 _ rfl) (hVV 2 _ rfl) (by decide) (by decide)) q120a q120c (g := (mkF m 166 #[.val (.long q0_0), .second, .val (.long q0_1), .second, .val (.long q0_2), .second, .val (.long q0_3), .second, .val (.long q0_4), .second, .val (.int p0_5), .val (.ref b1), .val (.long Y1), .second, .val (.long Y2), .second, .val (.long Y3), .second, .val (.int KD), .val (.ref b115), .val (.int (0 : Int32))] [(.ref b115), (.ref b1)])) rfl (by rw [hml]; rfl) (Steps.refl _) (argsL := [(.ref b115)]) (rest := []) (lenOf pd_3 rfl) rfl (by show 2 * 0 + _ ≤ _; exact Nat.le_of_eq rfl) (hb hby at_166) (fun _ _ => ⟨rfl, e114, (by decide : 1 + 0 ≤ _), (by decide : 3 + 0 ≤ _)⟩)
            dsimp only [Pt.U, Pt.locs, Pt.cells, Pt.slots] at X120 l120 y120 z120 st120 hQ120
            subst l120 y120 z120
            obtain ⟨rfl, N120q, e120⟩ := hQ120
            have N121 := Fr.app N118 N120q
            have pre122 : ∀ t, Steps p.tables e below (T120.setTop (mkF m 169 #[.val (.long q0_0), .second, .val (.long q0_1), .second, .val (.long q0_2), .second, .val (.long q0_3), .second, .val (.long q0_4), .second, .val (.int p0_5), .val (.ref b1), .val (.long Y1), .second, .val (.long Y2), .second, .val (.long Y3), .second, .val (.int KD), .val (.ref b115), .val (.int (0 : Int32))] [(.int (0 : Int32))])) t → Steps p.tables e below (s₁.setTop (entryFrame m #[(.long q0_0), (.long q0_1), (.long q0_2), (.long q0_3), (.long q0_4), (.int p0_5)] maxLocals)) t := fun t k => pre119 t (by
              show Steps p.tables e below (T114.setTop (mkF m 157 #[.val (.long q0_0), .second, .val (.long q0_1), .second, .val (.long q0_2), .second, .val (.long q0_3), .second, .val (.long q0_4), .second, .val (.int p0_5), .val (.ref b1), .val (.long Y1), .second, .val (.long Y2), .second, .val (.long Y3), .second, .val (.int KD), .unset, .unset] [(.ref b115)])) _
              refine XS.astore X114.here hx rfl (hb hby at_157) rfl rfl (l' := #[.val (.long q0_0), .second, .val (.long q0_1), .second, .val (.long q0_2), .second, .val (.long q0_3), .second, .val (.long q0_4), .second, .val (.int p0_5), .val (.ref b1), .val (.long Y1), .second, .val (.long Y2), .second, .val (.long Y3), .second, .val (.int KD), .val (.ref b115), .unset]) rfl ?_
              show Steps p.tables e below (T114.setTop (mkF m 159 #[.val (.long q0_0), .second, .val (.long q0_1), .second, .val (.long q0_2), .second, .val (.long q0_3), .second, .val (.long q0_4), .second, .val (.int p0_5), .val (.ref b1), .val (.long Y1), .second, .val (.long Y2), .second, .val (.long Y3), .second, .val (.int KD), .val (.ref b115), .unset] [])) _
              refine XS.iconst X114.here hx rfl (hb hby at_159) ?_
              show Steps p.tables e below (T114.setTop (mkF m 160 #[.val (.long q0_0), .second, .val (.long q0_1), .second, .val (.long q0_2), .second, .val (.long q0_3), .second, .val (.long q0_4), .second, .val (.int p0_5), .val (.ref b1), .val (.long Y1), .second, .val (.long Y2), .second, .val (.long Y3), .second, .val (.int KD), .val (.ref b115), .unset] [(.int (0 : Int32))])) _
              refine XS.istore X114.here hx rfl (hb hby at_160) rfl (l' := #[.val (.long q0_0), .second, .val (.long q0_1), .second, .val (.long q0_2), .second, .val (.long q0_3), .second, .val (.long q0_4), .second, .val (.int p0_5), .val (.ref b1), .val (.long Y1), .second, .val (.long Y2), .second, .val (.long Y3), .second, .val (.int KD), .val (.ref b115), .val (.int (0 : Int32))]) rfl ?_
              show Steps p.tables e below (T114.setTop (mkF m 162 #[.val (.long q0_0), .second, .val (.long q0_1), .second, .val (.long q0_2), .second, .val (.long q0_3), .second, .val (.long q0_4), .second, .val (.int p0_5), .val (.ref b1), .val (.long Y1), .second, .val (.long Y2), .second, .val (.long Y3), .second, .val (.int KD), .val (.ref b115), .val (.int (0 : Int32))] [])) _
              refine XS.aload X114.here hx rfl (hb hby at_162) rfl rfl ?_
              show Steps p.tables e below (T114.setTop (mkF m 164 #[.val (.long q0_0), .second, .val (.long q0_1), .second, .val (.long q0_2), .second, .val (.long q0_3), .second, .val (.long q0_4), .second, .val (.int p0_5), .val (.ref b1), .val (.long Y1), .second, .val (.long Y2), .second, .val (.long Y3), .second, .val (.int KD), .val (.ref b115), .val (.int (0 : Int32))] [(.ref b1)])) _
              refine XS.aload X114.here hx rfl (hb hby at_164) rfl rfl ?_
              show Steps p.tables e below (T114.setTop (mkF m 166 #[.val (.long q0_0), .second, .val (.long q0_1), .second, .val (.long q0_2), .second, .val (.long q0_3), .second, .val (.long q0_4), .second, .val (.int p0_5), .val (.ref b1), .val (.long Y1), .second, .val (.long Y2), .second, .val (.long Y3), .second, .val (.int KD), .val (.ref b115), .val (.int (0 : Int32))] [(.ref b115), (.ref b1)])) _
              refine st120.trans ?_
              exact k)
            obtain ⟨fs, hr, hrun, hended, hW, hsame⟩ := X120.leave (v := some (.int (1 : Int32))) (fun h => by rw [Bd.returns] at h; cases h)
            refine ⟨_, _, pre122 _ ?_, hrun, hended, _, _, rfl, ?_, ⟨_, rfl⟩, hW, hsame.mono (by decide) (by decide)⟩
            · show Steps p.tables e below (T120.setTop (mkF m 169 #[.val (.long q0_0), .second, .val (.long q0_1), .second, .val (.long q0_2), .second, .val (.long q0_3), .second, .val (.long q0_4), .second, .val (.int p0_5), .val (.ref b1), .val (.long Y1), .second, .val (.long Y2), .second, .val (.long Y3), .second, .val (.int KD), .val (.ref b115), .val (.int (0 : Int32))] [(.int (0 : Int32))])) _
              refine XS.iload X120.here hx rfl (hb hby at_169) rfl ?_
              show Steps p.tables e below (T120.setTop (mkF m 171 #[.val (.long q0_0), .second, .val (.long q0_1), .second, .val (.long q0_2), .second, .val (.long q0_3), .second, .val (.long q0_4), .second, .val (.int p0_5), .val (.ref b1), .val (.long Y1), .second, .val (.long Y2), .second, .val (.long Y3), .second, .val (.int KD), .val (.ref b115), .val (.int (0 : Int32))] [(.int (0 : Int32)), (.int (0 : Int32))])) _
              refine XS.icmpNo X120.here hx rfl (hb hby at_171) rfl (teq (by decide : (0 : Int32) = (0 : Int32))).2 ?_
              show Steps p.tables e below (T120.setTop (mkF m 174 #[.val (.long q0_0), .second, .val (.long q0_1), .second, .val (.long q0_2), .second, .val (.long q0_3), .second, .val (.long q0_4), .second, .val (.int p0_5), .val (.ref b1), .val (.long Y1), .second, .val (.long Y2), .second, .val (.long Y3), .second, .val (.int KD), .val (.ref b115), .val (.int (0 : Int32))] [])) _
              refine XS.iconst X120.here hx rfl (hb hby at_174) ?_
              show Steps p.tables e below (T120.setTop (mkF m 175 #[.val (.long q0_0), .second, .val (.long q0_1), .second, .val (.long q0_2), .second, .val (.long q0_3), .second, .val (.long q0_4), .second, .val (.int p0_5), .val (.ref b1), .val (.long Y1), .second, .val (.long Y2), .second, .val (.long Y3), .second, .val (.int KD), .val (.ref b115), .val (.int (0 : Int32))] [(.int (1 : Int32))])) _
              refine XS.goto X120.here hx rfl (pc0 := 175) (pc' := 179) rfl (hb hby at_175) (by decide) (by decide) ?_
              show Steps p.tables e below (T120.setTop (mkF m 179 #[.val (.long q0_0), .second, .val (.long q0_1), .second, .val (.long q0_2), .second, .val (.long q0_3), .second, .val (.long q0_4), .second, .val (.int p0_5), .val (.ref b1), .val (.long Y1), .second, .val (.long Y2), .second, .val (.long Y3), .second, .val (.int KD), .val (.ref b115), .val (.int (0 : Int32))] [(.int (1 : Int32))])) _
              exact retN X120 hx (t := .boolean) Bd.returns (by simp) (hb hby at_179) hr
            · show Q0 Z q0_0 q0_1 q0_2 q0_3 q0_4 p0_5 w0_cache clc h0 n0 _ T120.heap _
              rw [e120]
              exact ⟨rfl, N121⟩
set_option maxRecDepth 65536 in
set_option maxHeartbeats 40000000 in
theorem comes_1 {Post : Tables → Env → Array Value → State → Outcome → State → Prop} (hpost : ∀ tb e args s v u, (limb_1_1.after args s (.returned v) u = true ∧ limb_1_2.after args s (.returned v) u = true ∧ True) → FrameEnd s (.returned v) u (Jvm.fieldLocs frame_1_writes args s ++ Jvm.arrayLocs frame_1_arrays args s ++ Jvm.staticLocs frame_1_statics s) 16 128 → Post tb e args s (.returned v) u) :
    ArmFor flags0 classFile x code maxLocals ret World_1 tables_1 room_1 Calls_1 rest_1 Pre_1 Post := by
  intro l hfl _ _ p e ha hc hk s m args below hf hA hF happ hP
  obtain ⟨hcalls, hrest, hpre⟩ := hP
  obtain ⟨-, -, -, hnamed, -, -, -, hat⟩ := (Spec.applies_iff hf).mp happ
  obtain ⟨hg, hn⟩ := and_e (Cond.before_iff.mp (show (Jvm.Cond.and given_1 narrow_1).before args s = true from hpre))
  obtain ⟨g1, g2⟩ := and_e hg
  obtain ⟨g3, g4⟩ := and_e g2
  obtain ⟨g5, g6⟩ := and_e g4
  obtain ⟨g7, g8⟩ := and_e g6
  obtain ⟨g9, g10⟩ := and_e g8
  obtain ⟨g11, g12⟩ := and_e g10
  obtain ⟨w0, w1, w2, w3, w4, w5, rfl⟩ : ∃ w0 w1 w2 w3 w4 w5 : Value, args = #[w0, w1, w2, w3, w4, w5] := by
    have hs : args.size = 6 := by simpa [Cond.value, given_1] using g1
    obtain ⟨L⟩ := args
    match L, hs with
    | [w0, w1, w2, w3, w4, w5], _ => exact ⟨w0, w1, w2, w3, w4, w5, rfl⟩
  have hw := fun d (hd : d ∈ tables_1) => atoms_spec (ws := Jvm.Cond.code x code maxLocals ret :: tables_1) hat d (List.mem_cons_of_mem _ hd)
  have hfit : Fit s := fun {y c} hc i hi => by
    obtain ⟨ha, rfl⟩ := Array.getElem?_eq_some_iff.mp hc
    have q := List.all_eq_true.mp ((Array.all_eq_true_iff_forall_mem.mp hF) _ (Array.getElem_mem ha)) i (List.mem_range.mpr hi)
    simpa [Array.getElem?_eq_getElem hi] using q
  obtain ⟨hsets, hown0⟩ := atoms_of _ (rest_1_c_eq ▸ (show rest_1_c.before _ s = true from hrest))
  have hr0 := Cond.before_iff.mp hown0
  obtain ⟨i0, ei0⟩ := isL_v g3
  obtain rfl : w0 = (.long i0) := Option.some.inj ei0
  obtain ⟨i1, ei1⟩ := isL_v g5
  obtain rfl : w1 = (.long i1) := Option.some.inj ei1
  obtain ⟨i2, ei2⟩ := isL_v g7
  obtain rfl : w2 = (.long i2) := Option.some.inj ei2
  obtain ⟨i3, ei3⟩ := isL_v g9
  obtain rfl : w3 = (.long i3) := Option.some.inj ei3
  obtain ⟨i4, ei4⟩ := isL_v g11
  obtain rfl : w4 = (.long i4) := Option.some.inj ei4
  obtain ⟨i5, ei5⟩ := is_v g12
  obtain rfl : w5 = (.int i5) := Option.some.inj ei5
  obtain ⟨sv, esv⟩ := arr_v (Cond.before_iff.mp (hsets _ (List.mem_of_getElem? (i := 2) rfl)))
  have S0 : Sta s s.heap "java/lang/Long$LongCache" "cache" "[Ljava/lang/Long;" (.ref sv) := Sta.start esv (Or.inr ⟨hw _ (List.mem_of_getElem? (i := 52) rfl), hsets _ (List.mem_of_getElem? (i := 0) rfl)⟩)
  obtain ⟨clc, AC⟩ := Arr.start esv (Cond.before_iff.mp (hsets _ (List.mem_of_getElem? (i := 2) rfl)))
  have HS : clc.slots.size = 256 := own_len AC esv (Cond.before_iff.mp (hsets _ (List.mem_of_getElem? (i := 4) rfl)))
  have HA : ∀ j : Int32, ¬ (j < 0 ∨ clc.slots.size ≤ j.toNatClampNeg) → ∃ r, clc.slots[j.toNatClampNeg]? = some (.ref r) ∧ Exa s s.heap r "java/lang/Long" := own_el AC esv (Cond.before_iff.mp (hsets _ (List.mem_of_getElem? (i := 5) rfl)))
  obtain ⟨n, o, h1, h2, h3, _, L, rfl, ⟨rfl, N⟩, hq⟩ := rm0 l s _ hw tables_1 i0 i1 i2 i3 i4 i5 sv clc s.heap s.heap.size (Nat.le_refl _) (Old.start s) S0 AC HS HA p e ha hc hk s m _ below hf ((Spec.applies_iff_loose hf).mp happ).1 ⟨rfl, State.Warmed39.refl s, rfl⟩ trivial
  refine ⟨n, _, h1, h2, h3, hpost _ _ _ _ _ _ ⟨Cond.after_iff.mpr rfl, Cond.after_iff.mpr (eq_i res_at (Term.int_eval (1)) rfl), trivial⟩ ⟨hq.1, hq.2.1, (hq.2.2.sift fun y hy => Or.inr (N y hy)).mono (by decide) (by decide)⟩⟩
theorem main_1_1 : Claimed_1_1 := comes_1 fun _ _ _ _ _ _ h hF => ⟨h.1, hF⟩
theorem main_1_2 : Claimed_1_2 := comes_1 fun _ _ _ _ _ _ h hF => ⟨h.2.1, hF⟩
end Jvm.Pilot.@@N@@
namespace Jvm.Pilot.@@N@@
open Jvm Jvm.ClassFile Sem Op Lib Jvm.Free Jvm.Stand Jvm.Pilot.@@N@@.Jvm.D
/-! MADE BY PROGRAM (witnessworld.py) out of the Statement's table words and the real class files: 17 classes; the members and pool entries that the words name. The judged class is class 1, her method 1. -/
namespace start1
open Jvm.ClassFile
def u (s : String) : CpInfo := .utf8 (stringToUtf16 s)
/-- a pool by its gaps: so many unusable entries, then the entry; so many at the end -/
def gap : Nat → List CpInfo → List CpInfo
  | 0, r => r
  | n + 1, r => .unusable :: gap n r
def poolList (es : List (Nat × CpInfo)) (last : Nat) : List CpInfo := es.foldr (fun e r => gap e.1 (e.2 :: r)) (gap last [])
def pool (es : List (Nat × CpInfo)) (last : Nat) : Array CpInfo := ⟨poolList es last⟩
def fileOf (pool : Array CpInfo) (this : Nat) (attrs : Array Attribute := #[]) (ms : Array MethodInfo := #[]) (fl : Nat := 33) (sup : Nat := 0) (ifs : Array Nat := #[]) (fds : Array FieldInfo := #[]) : ClassFile where
  minorVersion := 0
  majorVersion := 65
  constantPool := pool
  accessFlags := fl
  thisClass := this
  superClass := sup
  interfaces := ifs
  fields := fds
  methods := ms
  attributes := attrs
def plain (name : String) (sup : Option ClassId) : Class where
  name := name
  kind := .ordinary
  loader := none
  accessFlags := 33
  super := sup
  interfaces := #[]
  cf := none
  fields := #[]
  methods := #[]
  instanceTypes := #[]
  staticTypes := #[]
  resolved := #[]
  callSites := []
  init := .initialized
  statics := none
  mirror := none

def pool0 : Array CpInfo := pool [(5, u "<init>"), (0, u "()V"), (1, .class_ 10), (1, u "java/lang/Object")] 113

def k0c0 : Code := { maxStack := 0, maxLocals := 1, code := object_method_1_code, exceptionTable := #[], attributes := #[] }
def k0m0 : Method := { name := "<init>", desc := "()V", sig := { parameters := [], returnType := none }, accessFlags := 1, code := some k0c0 }
/-- java/lang/Object -/
def k0 : Class := { plain "java/lang/Object" none with
  accessFlags := 33
  interfaces := #[]
  cf := some (fileOf pool0 8 #[] #[{ accessFlags := 1, nameIndex := 5, descriptorIndex := 6, attributes := #[] }] 33 0 #[] #[])
  fields := #[]
  methods := #[k0m0]
  instanceTypes := #[]
  staticTypes := #[]
  resolved := Array.replicate 124 none
  statics := none }

def pool1 : Array CpInfo := pool [(2, .class_ 4), (1, u "java/lang/Object"), (0, u "<init>"), (0, u "()V"), (0, .class_ 8), (0, u "com/example/nearlane/nearlane/model/Resources"), (0, .methodref 7 10), (0, .nameAndType 5 11), (0, u "(JJJ)V"), (0, .methodref 13 14), (0, .class_ 15), (0, .nameAndType 16 17), (0, u "java/lang/Long"), (0, u "valueOf"), (0, u "(J)Ljava/lang/Long;"), (0, .methodref 7 19), (0, .nameAndType 20 21), (0, u "equals"), (0, u "(Ljava/lang/Object;)Z"), (0, .class_ 23), (0, u "com/example/nearlane/nearlane/model/ResourcesEqualsPinLaw"), (2, u "law"), (0, u "(JJJJJI)Z")] 3

def k1m0 : Method := { name := "<init>", desc := "()V", sig := { parameters := [], returnType := none }, accessFlags := 1, code := none }
def k1c1 : Code := { maxStack := 8, maxLocals := 21, code := code, exceptionTable := #[], attributes := #[] }
def k1m1 : Method := { name := "law", desc := "(JJJJJI)Z", sig := { parameters := [.long, .long, .long, .long, .long, .int], returnType := some .boolean }, accessFlags := 9, code := some k1c1 }
/-- com/example/nearlane/nearlane/model/ResourcesEqualsPinLaw -/
def k1 : Class := { plain "com/example/nearlane/nearlane/model/ResourcesEqualsPinLaw" (some 0) with
  accessFlags := 49
  interfaces := #[]
  cf := some (fileOf pool1 22 #[] #[{ accessFlags := 1, nameIndex := 5, descriptorIndex := 6, attributes := #[] }, { accessFlags := 9, nameIndex := 26, descriptorIndex := 27, attributes := #[] }] 49 2 #[] #[])
  fields := #[]
  methods := #[k1m0, k1m1]
  instanceTypes := #[]
  staticTypes := #[]
  resolved := Array.replicate 31 none
  statics := none }

def pool2 : Array CpInfo := pool [(1, .methodref 2 3), (0, .class_ 4), (0, .nameAndType 5 6), (0, u "java/lang/Object"), (0, u "<init>"), (0, u "()V"), (0, .class_ 8), (0, u "java/lang/Record")] 13

def k2c0 : Code := { maxStack := 1, maxLocals := 1, code := jdk_30_method_1_code, exceptionTable := #[], attributes := #[] }
def k2m0 : Method := { name := "<init>", desc := "()V", sig := { parameters := [], returnType := none }, accessFlags := 4, code := some k2c0 }
/-- java/lang/Record -/
def k2 : Class := { plain "java/lang/Record" (some 0) with
  accessFlags := 1057
  interfaces := #[]
  cf := some (fileOf pool2 7 #[] #[{ accessFlags := 4, nameIndex := 5, descriptorIndex := 6, attributes := #[] }] 1057 2 #[] #[])
  fields := #[]
  methods := #[k2m0]
  instanceTypes := #[]
  staticTypes := #[]
  resolved := Array.replicate 22 none
  statics := none }

def pool3 : Array CpInfo := pool [(1, .methodref 2 3), (0, .class_ 4), (0, .nameAndType 5 6), (0, u "java/lang/Record"), (0, u "<init>"), (0, u "()V"), (0, .fieldref 8 9), (0, .class_ 10), (0, .nameAndType 11 12), (0, u "com/example/nearlane/nearlane/model/Resources"), (0, u "cpuMilli"), (0, u "J"), (0, .fieldref 8 14), (0, .nameAndType 15 12), (0, u "memoryMib"), (0, .fieldref 8 17), (0, .nameAndType 18 12), (0, u "gpuMilli"), (8, u "(JJJ)V"), (20, u "NONE"), (0, u "Lcom/example/nearlane/nearlane/model/Resources;"), (0, u "WHOLE_GPU"), (4, u "equals"), (0, u "(Ljava/lang/Object;)Z")] 38

def k3c0 : Code := { maxStack := 3, maxLocals := 7, code := prog_174_method_1_code, exceptionTable := #[], attributes := #[] }
def k3m0 : Method := { name := "<init>", desc := "(JJJ)V", sig := { parameters := [.long, .long, .long], returnType := none }, accessFlags := 1, code := some k3c0 }
def k3c1 : Code := { maxStack := 4, maxLocals := 3, code := prog_174_method_2_code, exceptionTable := #[], attributes := #[] }
def k3m1 : Method := { name := "equals", desc := "(Ljava/lang/Object;)Z", sig := { parameters := [(.object "java/lang/Object")], returnType := some .boolean }, accessFlags := 1, code := some k3c1 }
/-- com/example/nearlane/nearlane/model/Resources -/
def k3 : Class := { plain "com/example/nearlane/nearlane/model/Resources" (some 2) with
  accessFlags := 49
  interfaces := #[]
  cf := some (fileOf pool3 8 #[] #[{ accessFlags := 1, nameIndex := 5, descriptorIndex := 27, attributes := #[] }, { accessFlags := 1, nameIndex := 55, descriptorIndex := 56, attributes := #[] }] 49 2 #[] #[{ accessFlags := 18, nameIndex := 11, descriptorIndex := 12, attributes := #[] }, { accessFlags := 18, nameIndex := 15, descriptorIndex := 12, attributes := #[] }, { accessFlags := 18, nameIndex := 18, descriptorIndex := 12, attributes := #[] }, { accessFlags := 25, nameIndex := 48, descriptorIndex := 49, attributes := #[] }, { accessFlags := 25, nameIndex := 50, descriptorIndex := 12, attributes := #[] }])
  fields := #[{ name := "cpuMilli", type := .long, accessFlags := 18, slot := 0, constantValue := 0 }, { name := "memoryMib", type := .long, accessFlags := 18, slot := 1, constantValue := 0 }, { name := "gpuMilli", type := .long, accessFlags := 18, slot := 2, constantValue := 0 }, { name := "NONE", type := (.object "com/example/nearlane/nearlane/model/Resources"), accessFlags := 25, slot := 0, constantValue := 0 }, { name := "WHOLE_GPU", type := .long, accessFlags := 25, slot := 1, constantValue := 0 }]
  methods := #[k3m0, k3m1]
  instanceTypes := #[.long, .long, .long]
  staticTypes := #[(.object "com/example/nearlane/nearlane/model/Resources"), .long]
  resolved := Array.replicate 95 none
  statics := none }

def pool4 : Array CpInfo := pool [(1, .class_ 2), (0, u "java/io/Serializable"), (0, .class_ 4), (0, u "java/lang/Object")] 2

/-- java/io/Serializable -/
def k4 : Class := { plain "java/io/Serializable" (some 0) with
  accessFlags := 1537
  interfaces := #[]
  cf := some (fileOf pool4 1 #[] #[] 1537 3 #[] #[])
  fields := #[]
  methods := #[]
  instanceTypes := #[]
  staticTypes := #[]
  resolved := Array.replicate 7 none
  statics := none }

def pool5 : Array CpInfo := pool [(1, .methodref 2 3), (0, .class_ 4), (0, .nameAndType 5 6), (0, u "java/lang/Object"), (0, u "<init>"), (0, u "()V"), (1, .class_ 10), (1, u "java/lang/Number"), (2, .class_ 14), (0, u "java/io/Serializable"), (0, u "serialVersionUID"), (0, u "J")] 20

def k5c0 : Code := { maxStack := 1, maxLocals := 1, code := jdk_18_method_1_code, exceptionTable := #[], attributes := #[] }
def k5m0 : Method := { name := "<init>", desc := "()V", sig := { parameters := [], returnType := none }, accessFlags := 1, code := some k5c0 }
/-- java/lang/Number -/
def k5 : Class := { plain "java/lang/Number" (some 0) with
  accessFlags := 1057
  interfaces := #[4]
  cf := some (fileOf pool5 8 #[] #[{ accessFlags := 1, nameIndex := 5, descriptorIndex := 6, attributes := #[] }] 1057 2 #[13] #[{ accessFlags := 26, nameIndex := 15, descriptorIndex := 16, attributes := #[] }])
  fields := #[{ name := "serialVersionUID", type := .long, accessFlags := 26, slot := 0, constantValue := 0 }]
  methods := #[k5m0]
  instanceTypes := #[]
  staticTypes := #[.long]
  resolved := Array.replicate 37 none
  statics := none }

def pool6 : Array CpInfo := pool [(1, .class_ 2), (0, u "java/lang/Comparable"), (0, .class_ 4), (0, u "java/lang/Object")] 7

/-- java/lang/Comparable -/
def k6 : Class := { plain "java/lang/Comparable" (some 0) with
  accessFlags := 1537
  interfaces := #[]
  cf := some (fileOf pool6 1 #[] #[] 1537 3 #[] #[])
  fields := #[]
  methods := #[]
  instanceTypes := #[]
  staticTypes := #[]
  resolved := Array.replicate 12 none
  statics := none }

def pool7 : Array CpInfo := pool [(1, .class_ 2), (0, u "java/lang/constant/Constable"), (0, .class_ 4), (0, u "java/lang/Object")] 6

/-- java/lang/constant/Constable -/
def k7 : Class := { plain "java/lang/constant/Constable" (some 0) with
  accessFlags := 1537
  interfaces := #[]
  cf := some (fileOf pool7 1 #[] #[] 1537 3 #[] #[])
  fields := #[]
  methods := #[]
  instanceTypes := #[]
  staticTypes := #[]
  resolved := Array.replicate 11 none
  statics := none }

def pool8 : Array CpInfo := pool [(1, .class_ 2), (0, u "java/lang/constant/ConstantDesc"), (0, .class_ 4), (0, u "java/lang/Object")] 32

/-- java/lang/constant/ConstantDesc -/
def k8 : Class := { plain "java/lang/constant/ConstantDesc" (some 0) with
  accessFlags := 1537
  interfaces := #[]
  cf := some (fileOf pool8 1 #[] #[] 1537 3 #[] #[])
  fields := #[]
  methods := #[]
  instanceTypes := #[]
  staticTypes := #[]
  resolved := Array.replicate 37 none
  statics := none }

def pool9 : Array CpInfo := pool [(1, .class_ 2), (0, u "java/lang/Long"), (55, .nameAndType 59 60), (0, u "<init>"), (0, u "()V"), (24, u "valueOf"), (143, u "(J)Ljava/lang/Long;"), (0, .long 18446744073709551488), (1, .long 127), (1, .fieldref 235 236), (0, .class_ 237), (0, .nameAndType 238 239), (0, u "java/lang/Long$LongCache"), (0, u "cache"), (0, u "[Ljava/lang/Long;"), (0, .methodref 1 241), (0, .nameAndType 59 242), (0, u "(J)V"), (27, .methodref 271 58), (0, .class_ 272), (0, u "java/lang/Number"), (0, .fieldref 1 274), (0, .nameAndType 275 276), (0, u "value"), (0, u "J"), (84, u "TYPE"), (0, u "Ljava/lang/Class;"), (0, .class_ 364), (0, u "java/lang/Comparable"), (0, .class_ 366), (0, u "java/lang/constant/Constable"), (0, .class_ 368), (0, u "java/lang/constant/ConstantDesc"), (0, u "MIN_VALUE"), (1, u "MAX_VALUE"), (4, u "SIZE"), (0, u "I"), (1, u "BYTES"), (1, u "serialVersionUID")] 142

def k9c0 : Code := { maxStack := 4, maxLocals := 3, code := jdk_35_method_24_code, exceptionTable := #[], attributes := #[] }
def k9m0 : Method := { name := "valueOf", desc := "(J)Ljava/lang/Long;", sig := { parameters := [.long], returnType := some (.object "java/lang/Long") }, accessFlags := 9, code := some k9c0 }
def k9c1 : Code := { maxStack := 3, maxLocals := 3, code := jdk_35_method_26_code, exceptionTable := #[], attributes := #[] }
def k9m1 : Method := { name := "<init>", desc := "(J)V", sig := { parameters := [.long], returnType := none }, accessFlags := 1, code := some k9c1 }
/-- java/lang/Long -/
def k9 : Class := { plain "java/lang/Long" (some 5) with
  accessFlags := 49
  interfaces := #[6, 7, 8]
  cf := some (fileOf pool9 1 #[.nestMembers #[235]] #[{ accessFlags := 9, nameIndex := 85, descriptorIndex := 229, attributes := #[] }, { accessFlags := 1, nameIndex := 59, descriptorIndex := 242, attributes := #[] }] 49 271 #[363, 365, 367] #[{ accessFlags := 25, nameIndex := 369, descriptorIndex := 276, attributes := #[] }, { accessFlags := 25, nameIndex := 371, descriptorIndex := 276, attributes := #[] }, { accessFlags := 25, nameIndex := 361, descriptorIndex := 362, attributes := #[] }, { accessFlags := 18, nameIndex := 275, descriptorIndex := 276, attributes := #[] }, { accessFlags := 25, nameIndex := 376, descriptorIndex := 377, attributes := #[] }, { accessFlags := 25, nameIndex := 379, descriptorIndex := 377, attributes := #[] }, { accessFlags := 26, nameIndex := 381, descriptorIndex := 276, attributes := #[] }])
  fields := #[{ name := "MIN_VALUE", type := .long, accessFlags := 25, slot := 0, constantValue := 0 }, { name := "MAX_VALUE", type := .long, accessFlags := 25, slot := 1, constantValue := 0 }, { name := "TYPE", type := (.object "java/lang/Class"), accessFlags := 25, slot := 2, constantValue := 0 }, { name := "value", type := .long, accessFlags := 18, slot := 0, constantValue := 0 }, { name := "SIZE", type := .int, accessFlags := 25, slot := 3, constantValue := 0 }, { name := "BYTES", type := .int, accessFlags := 25, slot := 4, constantValue := 0 }, { name := "serialVersionUID", type := .long, accessFlags := 26, slot := 5, constantValue := 0 }]
  methods := #[k9m0, k9m1]
  instanceTypes := #[.long]
  staticTypes := #[.long, .long, (.object "java/lang/Class"), .int, .int, .long]
  resolved := Array.replicate 524 none
  statics := none }

def pool10 : Array CpInfo := pool [(2, .class_ 4), (1, u "java/lang/Object"), (0, u "<init>"), (0, u "()V"), (0, .class_ 8), (0, u "java/lang/Long"), (7, .class_ 18), (1, u "java/lang/Long$LongCache"), (0, u "$assertionsDisabled"), (0, u "Z"), (8, u "archivedCache"), (0, u "[Ljava/lang/Long;"), (7, u "cache")] 24

def k10m0 : Method := { name := "<init>", desc := "()V", sig := { parameters := [], returnType := none }, accessFlags := 2, code := none }
/-- java/lang/Long$LongCache -/
def k10 : Class := { plain "java/lang/Long$LongCache" (some 0) with
  accessFlags := 48
  interfaces := #[]
  cf := some (fileOf pool10 16 #[.nestHost 7] #[{ accessFlags := 2, nameIndex := 5, descriptorIndex := 6, attributes := #[] }] 48 2 #[] #[{ accessFlags := 24, nameIndex := 38, descriptorIndex := 30, attributes := #[] }, { accessFlags := 8, nameIndex := 29, descriptorIndex := 30, attributes := #[] }, { accessFlags := 4120, nameIndex := 19, descriptorIndex := 20, attributes := #[] }])
  fields := #[{ name := "cache", type := (.array (.object "java/lang/Long")), accessFlags := 24, slot := 0, constantValue := 0 }, { name := "archivedCache", type := (.array (.object "java/lang/Long")), accessFlags := 8, slot := 1, constantValue := 0 }, { name := "$assertionsDisabled", type := .boolean, accessFlags := 4120, slot := 2, constantValue := 0 }]
  methods := #[k10m0]
  instanceTypes := #[]
  staticTypes := #[(.array (.object "java/lang/Long")), (.array (.object "java/lang/Long")), .boolean]
  resolved := Array.replicate 63 none
  statics := some 0 }

def pool11 : Array CpInfo := pool [(1, u "java/lang/Cloneable"), (0, .class_ 1), (0, u "java/lang/Object"), (0, .class_ 3)] 3

/-- java/lang/Cloneable -/
def k11 : Class := { plain "java/lang/Cloneable" (some 0) with
  accessFlags := 1537
  interfaces := #[]
  cf := some (fileOf pool11 2 #[] #[] 1537 4 #[] #[])
  fields := #[]
  methods := #[]
  instanceTypes := #[]
  staticTypes := #[]
  resolved := Array.replicate 8 none
  statics := none }

/-- the primitive byte -/
def k12 : Class := { plain "byte" none with kind := .primitive 'B', accessFlags := 0x411 }
/-- [B -/
def k13 : Class := { plain "[B" (some 0) with kind := .array 12 .byte, interfaces := #[11, 4], accessFlags := 1041 }

/-- the primitive int -/
def k14 : Class := { plain "int" none with kind := .primitive 'I', accessFlags := 0x411 }
/-- [I -/
def k15 : Class := { plain "[I" (some 0) with kind := .array 14 .int, interfaces := #[11, 4], accessFlags := 1041 }

/-- [Ljava/lang/Long; -/
def k16 : Class := { plain "[Ljava/lang/Long;" (some 0) with kind := .array 9 (.object "java/lang/Long"), interfaces := #[11, 4], accessFlags := 1041 }

def heap : Heap := #[{ cls := 10, slots := #[.ref 1, .null, .int 0], vm := .statics 10 },
  { cls := 16, slots := #[.ref 2, .ref 3, .ref 4, .ref 5, .ref 6, .ref 7, .ref 8, .ref 9, .ref 10, .ref 11, .ref 12, .ref 13, .ref 14, .ref 15, .ref 16, .ref 17, .ref 18, .ref 19, .ref 20, .ref 21, .ref 22, .ref 23, .ref 24, .ref 25, .ref 26, .ref 27, .ref 28, .ref 29, .ref 30, .ref 31, .ref 32, .ref 33, .ref 34, .ref 35, .ref 36, .ref 37, .ref 38, .ref 39, .ref 40, .ref 41, .ref 42, .ref 43, .ref 44, .ref 45, .ref 46, .ref 47, .ref 48, .ref 49, .ref 50, .ref 51, .ref 52, .ref 53, .ref 54, .ref 55, .ref 56, .ref 57, .ref 58, .ref 59, .ref 60, .ref 61, .ref 62, .ref 63, .ref 64, .ref 65, .ref 66, .ref 67, .ref 68, .ref 69, .ref 70, .ref 71, .ref 72, .ref 73, .ref 74, .ref 75, .ref 76, .ref 77, .ref 78, .ref 79, .ref 80, .ref 81, .ref 82, .ref 83, .ref 84, .ref 85, .ref 86, .ref 87, .ref 88, .ref 89, .ref 90, .ref 91, .ref 92, .ref 93, .ref 94, .ref 95, .ref 96, .ref 97, .ref 98, .ref 99, .ref 100, .ref 101, .ref 102, .ref 103, .ref 104, .ref 105, .ref 106, .ref 107, .ref 108, .ref 109, .ref 110, .ref 111, .ref 112, .ref 113, .ref 114, .ref 115, .ref 116, .ref 117, .ref 118, .ref 119, .ref 120, .ref 121, .ref 122, .ref 123, .ref 124, .ref 125, .ref 126, .ref 127, .ref 128, .ref 129, .ref 130, .ref 131, .ref 132, .ref 133, .ref 134, .ref 135, .ref 136, .ref 137, .ref 138, .ref 139, .ref 140, .ref 141, .ref 142, .ref 143, .ref 144, .ref 145, .ref 146, .ref 147, .ref 148, .ref 149, .ref 150, .ref 151, .ref 152, .ref 153, .ref 154, .ref 155, .ref 156, .ref 157, .ref 158, .ref 159, .ref 160, .ref 161, .ref 162, .ref 163, .ref 164, .ref 165, .ref 166, .ref 167, .ref 168, .ref 169, .ref 170, .ref 171, .ref 172, .ref 173, .ref 174, .ref 175, .ref 176, .ref 177, .ref 178, .ref 179, .ref 180, .ref 181, .ref 182, .ref 183, .ref 184, .ref 185, .ref 186, .ref 187, .ref 188, .ref 189, .ref 190, .ref 191, .ref 192, .ref 193, .ref 194, .ref 195, .ref 196, .ref 197, .ref 198, .ref 199, .ref 200, .ref 201, .ref 202, .ref 203, .ref 204, .ref 205, .ref 206, .ref 207, .ref 208, .ref 209, .ref 210, .ref 211, .ref 212, .ref 213, .ref 214, .ref 215, .ref 216, .ref 217, .ref 218, .ref 219, .ref 220, .ref 221, .ref 222, .ref 223, .ref 224, .ref 225, .ref 226, .ref 227, .ref 228, .ref 229, .ref 230, .ref 231, .ref 232, .ref 233, .ref 234, .ref 235, .ref 236, .ref 237, .ref 238, .ref 239, .ref 240, .ref 241, .ref 242, .ref 243, .ref 244, .ref 245, .ref 246, .ref 247, .ref 248, .ref 249, .ref 250, .ref 251, .ref 252, .ref 253, .ref 254, .ref 255, .ref 256, .ref 257], vm := .none },
  { cls := 9, slots := #[.long (-128)], vm := .none },
  { cls := 9, slots := #[.long (-127)], vm := .none },
  { cls := 9, slots := #[.long (-126)], vm := .none },
  { cls := 9, slots := #[.long (-125)], vm := .none },
  { cls := 9, slots := #[.long (-124)], vm := .none },
  { cls := 9, slots := #[.long (-123)], vm := .none },
  { cls := 9, slots := #[.long (-122)], vm := .none },
  { cls := 9, slots := #[.long (-121)], vm := .none },
  { cls := 9, slots := #[.long (-120)], vm := .none },
  { cls := 9, slots := #[.long (-119)], vm := .none },
  { cls := 9, slots := #[.long (-118)], vm := .none },
  { cls := 9, slots := #[.long (-117)], vm := .none },
  { cls := 9, slots := #[.long (-116)], vm := .none },
  { cls := 9, slots := #[.long (-115)], vm := .none },
  { cls := 9, slots := #[.long (-114)], vm := .none },
  { cls := 9, slots := #[.long (-113)], vm := .none },
  { cls := 9, slots := #[.long (-112)], vm := .none },
  { cls := 9, slots := #[.long (-111)], vm := .none },
  { cls := 9, slots := #[.long (-110)], vm := .none },
  { cls := 9, slots := #[.long (-109)], vm := .none },
  { cls := 9, slots := #[.long (-108)], vm := .none },
  { cls := 9, slots := #[.long (-107)], vm := .none },
  { cls := 9, slots := #[.long (-106)], vm := .none },
  { cls := 9, slots := #[.long (-105)], vm := .none },
  { cls := 9, slots := #[.long (-104)], vm := .none },
  { cls := 9, slots := #[.long (-103)], vm := .none },
  { cls := 9, slots := #[.long (-102)], vm := .none },
  { cls := 9, slots := #[.long (-101)], vm := .none },
  { cls := 9, slots := #[.long (-100)], vm := .none },
  { cls := 9, slots := #[.long (-99)], vm := .none },
  { cls := 9, slots := #[.long (-98)], vm := .none },
  { cls := 9, slots := #[.long (-97)], vm := .none },
  { cls := 9, slots := #[.long (-96)], vm := .none },
  { cls := 9, slots := #[.long (-95)], vm := .none },
  { cls := 9, slots := #[.long (-94)], vm := .none },
  { cls := 9, slots := #[.long (-93)], vm := .none },
  { cls := 9, slots := #[.long (-92)], vm := .none },
  { cls := 9, slots := #[.long (-91)], vm := .none },
  { cls := 9, slots := #[.long (-90)], vm := .none },
  { cls := 9, slots := #[.long (-89)], vm := .none },
  { cls := 9, slots := #[.long (-88)], vm := .none },
  { cls := 9, slots := #[.long (-87)], vm := .none },
  { cls := 9, slots := #[.long (-86)], vm := .none },
  { cls := 9, slots := #[.long (-85)], vm := .none },
  { cls := 9, slots := #[.long (-84)], vm := .none },
  { cls := 9, slots := #[.long (-83)], vm := .none },
  { cls := 9, slots := #[.long (-82)], vm := .none },
  { cls := 9, slots := #[.long (-81)], vm := .none },
  { cls := 9, slots := #[.long (-80)], vm := .none },
  { cls := 9, slots := #[.long (-79)], vm := .none },
  { cls := 9, slots := #[.long (-78)], vm := .none },
  { cls := 9, slots := #[.long (-77)], vm := .none },
  { cls := 9, slots := #[.long (-76)], vm := .none },
  { cls := 9, slots := #[.long (-75)], vm := .none },
  { cls := 9, slots := #[.long (-74)], vm := .none },
  { cls := 9, slots := #[.long (-73)], vm := .none },
  { cls := 9, slots := #[.long (-72)], vm := .none },
  { cls := 9, slots := #[.long (-71)], vm := .none },
  { cls := 9, slots := #[.long (-70)], vm := .none },
  { cls := 9, slots := #[.long (-69)], vm := .none },
  { cls := 9, slots := #[.long (-68)], vm := .none },
  { cls := 9, slots := #[.long (-67)], vm := .none },
  { cls := 9, slots := #[.long (-66)], vm := .none },
  { cls := 9, slots := #[.long (-65)], vm := .none },
  { cls := 9, slots := #[.long (-64)], vm := .none },
  { cls := 9, slots := #[.long (-63)], vm := .none },
  { cls := 9, slots := #[.long (-62)], vm := .none },
  { cls := 9, slots := #[.long (-61)], vm := .none },
  { cls := 9, slots := #[.long (-60)], vm := .none },
  { cls := 9, slots := #[.long (-59)], vm := .none },
  { cls := 9, slots := #[.long (-58)], vm := .none },
  { cls := 9, slots := #[.long (-57)], vm := .none },
  { cls := 9, slots := #[.long (-56)], vm := .none },
  { cls := 9, slots := #[.long (-55)], vm := .none },
  { cls := 9, slots := #[.long (-54)], vm := .none },
  { cls := 9, slots := #[.long (-53)], vm := .none },
  { cls := 9, slots := #[.long (-52)], vm := .none },
  { cls := 9, slots := #[.long (-51)], vm := .none },
  { cls := 9, slots := #[.long (-50)], vm := .none },
  { cls := 9, slots := #[.long (-49)], vm := .none },
  { cls := 9, slots := #[.long (-48)], vm := .none },
  { cls := 9, slots := #[.long (-47)], vm := .none },
  { cls := 9, slots := #[.long (-46)], vm := .none },
  { cls := 9, slots := #[.long (-45)], vm := .none },
  { cls := 9, slots := #[.long (-44)], vm := .none },
  { cls := 9, slots := #[.long (-43)], vm := .none },
  { cls := 9, slots := #[.long (-42)], vm := .none },
  { cls := 9, slots := #[.long (-41)], vm := .none },
  { cls := 9, slots := #[.long (-40)], vm := .none },
  { cls := 9, slots := #[.long (-39)], vm := .none },
  { cls := 9, slots := #[.long (-38)], vm := .none },
  { cls := 9, slots := #[.long (-37)], vm := .none },
  { cls := 9, slots := #[.long (-36)], vm := .none },
  { cls := 9, slots := #[.long (-35)], vm := .none },
  { cls := 9, slots := #[.long (-34)], vm := .none },
  { cls := 9, slots := #[.long (-33)], vm := .none },
  { cls := 9, slots := #[.long (-32)], vm := .none },
  { cls := 9, slots := #[.long (-31)], vm := .none },
  { cls := 9, slots := #[.long (-30)], vm := .none },
  { cls := 9, slots := #[.long (-29)], vm := .none },
  { cls := 9, slots := #[.long (-28)], vm := .none },
  { cls := 9, slots := #[.long (-27)], vm := .none },
  { cls := 9, slots := #[.long (-26)], vm := .none },
  { cls := 9, slots := #[.long (-25)], vm := .none },
  { cls := 9, slots := #[.long (-24)], vm := .none },
  { cls := 9, slots := #[.long (-23)], vm := .none },
  { cls := 9, slots := #[.long (-22)], vm := .none },
  { cls := 9, slots := #[.long (-21)], vm := .none },
  { cls := 9, slots := #[.long (-20)], vm := .none },
  { cls := 9, slots := #[.long (-19)], vm := .none },
  { cls := 9, slots := #[.long (-18)], vm := .none },
  { cls := 9, slots := #[.long (-17)], vm := .none },
  { cls := 9, slots := #[.long (-16)], vm := .none },
  { cls := 9, slots := #[.long (-15)], vm := .none },
  { cls := 9, slots := #[.long (-14)], vm := .none },
  { cls := 9, slots := #[.long (-13)], vm := .none },
  { cls := 9, slots := #[.long (-12)], vm := .none },
  { cls := 9, slots := #[.long (-11)], vm := .none },
  { cls := 9, slots := #[.long (-10)], vm := .none },
  { cls := 9, slots := #[.long (-9)], vm := .none },
  { cls := 9, slots := #[.long (-8)], vm := .none },
  { cls := 9, slots := #[.long (-7)], vm := .none },
  { cls := 9, slots := #[.long (-6)], vm := .none },
  { cls := 9, slots := #[.long (-5)], vm := .none },
  { cls := 9, slots := #[.long (-4)], vm := .none },
  { cls := 9, slots := #[.long (-3)], vm := .none },
  { cls := 9, slots := #[.long (-2)], vm := .none },
  { cls := 9, slots := #[.long (-1)], vm := .none },
  { cls := 9, slots := #[.long 0], vm := .none },
  { cls := 9, slots := #[.long 1], vm := .none },
  { cls := 9, slots := #[.long 2], vm := .none },
  { cls := 9, slots := #[.long 3], vm := .none },
  { cls := 9, slots := #[.long 4], vm := .none },
  { cls := 9, slots := #[.long 5], vm := .none },
  { cls := 9, slots := #[.long 6], vm := .none },
  { cls := 9, slots := #[.long 7], vm := .none },
  { cls := 9, slots := #[.long 8], vm := .none },
  { cls := 9, slots := #[.long 9], vm := .none },
  { cls := 9, slots := #[.long 10], vm := .none },
  { cls := 9, slots := #[.long 11], vm := .none },
  { cls := 9, slots := #[.long 12], vm := .none },
  { cls := 9, slots := #[.long 13], vm := .none },
  { cls := 9, slots := #[.long 14], vm := .none },
  { cls := 9, slots := #[.long 15], vm := .none },
  { cls := 9, slots := #[.long 16], vm := .none },
  { cls := 9, slots := #[.long 17], vm := .none },
  { cls := 9, slots := #[.long 18], vm := .none },
  { cls := 9, slots := #[.long 19], vm := .none },
  { cls := 9, slots := #[.long 20], vm := .none },
  { cls := 9, slots := #[.long 21], vm := .none },
  { cls := 9, slots := #[.long 22], vm := .none },
  { cls := 9, slots := #[.long 23], vm := .none },
  { cls := 9, slots := #[.long 24], vm := .none },
  { cls := 9, slots := #[.long 25], vm := .none },
  { cls := 9, slots := #[.long 26], vm := .none },
  { cls := 9, slots := #[.long 27], vm := .none },
  { cls := 9, slots := #[.long 28], vm := .none },
  { cls := 9, slots := #[.long 29], vm := .none },
  { cls := 9, slots := #[.long 30], vm := .none },
  { cls := 9, slots := #[.long 31], vm := .none },
  { cls := 9, slots := #[.long 32], vm := .none },
  { cls := 9, slots := #[.long 33], vm := .none },
  { cls := 9, slots := #[.long 34], vm := .none },
  { cls := 9, slots := #[.long 35], vm := .none },
  { cls := 9, slots := #[.long 36], vm := .none },
  { cls := 9, slots := #[.long 37], vm := .none },
  { cls := 9, slots := #[.long 38], vm := .none },
  { cls := 9, slots := #[.long 39], vm := .none },
  { cls := 9, slots := #[.long 40], vm := .none },
  { cls := 9, slots := #[.long 41], vm := .none },
  { cls := 9, slots := #[.long 42], vm := .none },
  { cls := 9, slots := #[.long 43], vm := .none },
  { cls := 9, slots := #[.long 44], vm := .none },
  { cls := 9, slots := #[.long 45], vm := .none },
  { cls := 9, slots := #[.long 46], vm := .none },
  { cls := 9, slots := #[.long 47], vm := .none },
  { cls := 9, slots := #[.long 48], vm := .none },
  { cls := 9, slots := #[.long 49], vm := .none },
  { cls := 9, slots := #[.long 50], vm := .none },
  { cls := 9, slots := #[.long 51], vm := .none },
  { cls := 9, slots := #[.long 52], vm := .none },
  { cls := 9, slots := #[.long 53], vm := .none },
  { cls := 9, slots := #[.long 54], vm := .none },
  { cls := 9, slots := #[.long 55], vm := .none },
  { cls := 9, slots := #[.long 56], vm := .none },
  { cls := 9, slots := #[.long 57], vm := .none },
  { cls := 9, slots := #[.long 58], vm := .none },
  { cls := 9, slots := #[.long 59], vm := .none },
  { cls := 9, slots := #[.long 60], vm := .none },
  { cls := 9, slots := #[.long 61], vm := .none },
  { cls := 9, slots := #[.long 62], vm := .none },
  { cls := 9, slots := #[.long 63], vm := .none },
  { cls := 9, slots := #[.long 64], vm := .none },
  { cls := 9, slots := #[.long 65], vm := .none },
  { cls := 9, slots := #[.long 66], vm := .none },
  { cls := 9, slots := #[.long 67], vm := .none },
  { cls := 9, slots := #[.long 68], vm := .none },
  { cls := 9, slots := #[.long 69], vm := .none },
  { cls := 9, slots := #[.long 70], vm := .none },
  { cls := 9, slots := #[.long 71], vm := .none },
  { cls := 9, slots := #[.long 72], vm := .none },
  { cls := 9, slots := #[.long 73], vm := .none },
  { cls := 9, slots := #[.long 74], vm := .none },
  { cls := 9, slots := #[.long 75], vm := .none },
  { cls := 9, slots := #[.long 76], vm := .none },
  { cls := 9, slots := #[.long 77], vm := .none },
  { cls := 9, slots := #[.long 78], vm := .none },
  { cls := 9, slots := #[.long 79], vm := .none },
  { cls := 9, slots := #[.long 80], vm := .none },
  { cls := 9, slots := #[.long 81], vm := .none },
  { cls := 9, slots := #[.long 82], vm := .none },
  { cls := 9, slots := #[.long 83], vm := .none },
  { cls := 9, slots := #[.long 84], vm := .none },
  { cls := 9, slots := #[.long 85], vm := .none },
  { cls := 9, slots := #[.long 86], vm := .none },
  { cls := 9, slots := #[.long 87], vm := .none },
  { cls := 9, slots := #[.long 88], vm := .none },
  { cls := 9, slots := #[.long 89], vm := .none },
  { cls := 9, slots := #[.long 90], vm := .none },
  { cls := 9, slots := #[.long 91], vm := .none },
  { cls := 9, slots := #[.long 92], vm := .none },
  { cls := 9, slots := #[.long 93], vm := .none },
  { cls := 9, slots := #[.long 94], vm := .none },
  { cls := 9, slots := #[.long 95], vm := .none },
  { cls := 9, slots := #[.long 96], vm := .none },
  { cls := 9, slots := #[.long 97], vm := .none },
  { cls := 9, slots := #[.long 98], vm := .none },
  { cls := 9, slots := #[.long 99], vm := .none },
  { cls := 9, slots := #[.long 100], vm := .none },
  { cls := 9, slots := #[.long 101], vm := .none },
  { cls := 9, slots := #[.long 102], vm := .none },
  { cls := 9, slots := #[.long 103], vm := .none },
  { cls := 9, slots := #[.long 104], vm := .none },
  { cls := 9, slots := #[.long 105], vm := .none },
  { cls := 9, slots := #[.long 106], vm := .none },
  { cls := 9, slots := #[.long 107], vm := .none },
  { cls := 9, slots := #[.long 108], vm := .none },
  { cls := 9, slots := #[.long 109], vm := .none },
  { cls := 9, slots := #[.long 110], vm := .none },
  { cls := 9, slots := #[.long 111], vm := .none },
  { cls := 9, slots := #[.long 112], vm := .none },
  { cls := 9, slots := #[.long 113], vm := .none },
  { cls := 9, slots := #[.long 114], vm := .none },
  { cls := 9, slots := #[.long 115], vm := .none },
  { cls := 9, slots := #[.long 116], vm := .none },
  { cls := 9, slots := #[.long 117], vm := .none },
  { cls := 9, slots := #[.long 118], vm := .none },
  { cls := 9, slots := #[.long 119], vm := .none },
  { cls := 9, slots := #[.long 120], vm := .none },
  { cls := 9, slots := #[.long 121], vm := .none },
  { cls := 9, slots := #[.long 122], vm := .none },
  { cls := 9, slots := #[.long 123], vm := .none },
  { cls := 9, slots := #[.long 124], vm := .none },
  { cls := 9, slots := #[.long 125], vm := .none },
  { cls := 9, slots := #[.long 126], vm := .none },
  { cls := 9, slots := #[.long 127], vm := .none }]
def classes : Array Class := #[k0, k1, k2, k3, k4, k5, k6, k7, k8, k9, k10, k11, k12, k13, k14, k15, k16]
def interned : List (Array UInt16 × Addr) := []
def slotsUsed : Nat := 515
def theMethod : MethodId := ⟨1, 1⟩
def args0 : Array Value := #[.long 5, .long 6, .long 7, .long 8, .long 9, .int 3]
def aboutOver (below : List Frame) : State where
  vm := { classes := classes, interned := interned.toArray }
  heap := heap
  slotsUsed := slotsUsed
  threads := #[{ frames := .invoking theMethod args0 :: below }]
def below0 : List Frame := [.native { method := ⟨0, 0⟩, args := #[] }]
def about1 : State := aboutOver below0
def p0 : Program := .bare "" "" ""
def e0 : Env := launch0.env 0 0 0
theorem w_frames : about1.frames = Frame.invoking theMethod args0 :: below0 := rfl
set_option maxRecDepth 65536 in
theorem w_args : argsFit about1.vm theMethod args0 = true := by decide +kernel
set_option maxRecDepth 65536 in
theorem w_heap : heapFits about1 = true := by decide +kernel
set_option maxRecDepth 65536 in
theorem w_runnable : about1.curStatus? = some .runnable := by decide +kernel
set_option maxRecDepth 65536 in
theorem w_alone : about1.alone = true := by decide +kernel
set_option maxRecDepth 65536 in
theorem w_named : about1.methodNamed? x = some theMethod := by decide +kernel
set_option maxRecDepth 65536 in
theorem w_hears : about1.hears theMethod below0 = true := by decide +kernel
set_option maxRecDepth 65536 in
theorem w_ripe : about1.ripe theMethod args0 below0 = true := by decide +kernel
theorem w_running : about1.status = .running := rfl
set_option maxRecDepth 65536 in
theorem w_room : about1.hasRoom e0.platform room_1 = true :=
  launch0.hasRoom_least _ room_1 (by decide +kernel) (by decide +kernel) (by decide +kernel) (by decide +kernel) (by decide +kernel) (by decide +kernel)
theorem allAtoms_all (ts : List Jvm.Cond) (a : Array Jvm.Value) (st : Jvm.State) : (allAtoms ts).before a st = ts.all (fun c => c.before a st) := by
  induction ts with
  | nil => rfl
  | cons c t ih =>
    show (Jvm.Cond.and c (allAtoms t)).before a st = _
    rw [Jvm.Cond.before_and, ih, List.all_cons]
def words1 : List Jvm.Cond := Jvm.Cond.code x code maxLocals ret :: tables_1
/-- a 'code' word, met by the world's own term for the bytes: nothing is compared byte by byte -/
theorem code_word {y : MethodName} {bytes : ByteArray} {mx : Nat} {rt : Option FieldType} {a : Array Value} {s : State} {m : MethodId} {meth : Method} {c : Code} (h1 : s.methodNamed? y = some m) (h2 : s.vm.method? m = some meth) (h3 : meth.code = some c) (h4 : c.code = bytes)
    (h5 : (c.maxLocals == mx && c.exceptionTable.isEmpty && decide (c.maxStack ≤ mostOperands) && decide (meth.sig.returnType = rt) && !meth.locks && decide (parseMethodDescriptor y.desc = some meth.sig)) = true) : (Jvm.Cond.code y bytes mx rt).before a s = true := by
  simp only [Bool.and_eq_true, beq_iff_eq, Bool.not_eq_true', decide_eq_true_eq] at h5
  obtain ⟨⟨⟨⟨⟨g1, g2⟩, g3⟩, g4⟩, g5⟩, g6⟩ := h5
  simp [Cond.before, Cond.holds, Cond.value, h1, h2, h3, h4, g1, g2, g3, g4, g5, g6]
def isCode : Jvm.Cond → Bool
  | .code _ _ _ _ => true
  | _ => false
theorem all_split {L : List Jvm.Cond} {P : Jvm.Cond → Bool} (h1 : L.all (fun c => isCode c || P c) = true) (h2 : ∀ c ∈ L.filter isCode, P c = true) : L.all P = true := by
  refine List.all_eq_true.mpr fun c hc => ?_
  have h := List.all_eq_true.mp h1 c hc
  rcases Bool.eq_false_or_eq_true (isCode c) with hi | hi
  · exact h2 c (List.mem_filter.mpr ⟨hc, hi⟩)
  · simpa [hi] using h
set_option maxRecDepth 65536 in
theorem w_c0 : (Jvm.Cond.code x code maxLocals ret).before args0 about1 = true := code_word (m := ⟨1, 1⟩) (meth := k1m1) (c := k1c1) (by decide +kernel) rfl rfl rfl (by decide +kernel)
set_option maxRecDepth 65536 in
theorem w_c1 : (Jvm.Cond.code ({ cls := "com/example/nearlane/nearlane/model/Resources", name := "<init>", desc := "(JJJ)V" } : Jvm.MethodName) prog_174_method_1_code (7 : Nat) (Option.none : Option Jvm.ClassFile.FieldType)).before args0 about1 = true := code_word (m := ⟨3, 0⟩) (meth := k3m0) (c := k3c0) (by decide +kernel) rfl rfl rfl (by decide +kernel)
set_option maxRecDepth 65536 in
theorem w_c2 : (Jvm.Cond.code ({ cls := "java/lang/Record", name := "<init>", desc := "()V" } : Jvm.MethodName) jdk_30_method_1_code (1 : Nat) (Option.none : Option Jvm.ClassFile.FieldType)).before args0 about1 = true := code_word (m := ⟨2, 0⟩) (meth := k2m0) (c := k2c0) (by decide +kernel) rfl rfl rfl (by decide +kernel)
set_option maxRecDepth 65536 in
theorem w_c3 : (Jvm.Cond.code ({ cls := "java/lang/Object", name := "<init>", desc := "()V" } : Jvm.MethodName) object_method_1_code (1 : Nat) (Option.none : Option Jvm.ClassFile.FieldType)).before args0 about1 = true := code_word (m := ⟨0, 0⟩) (meth := k0m0) (c := k0c0) (by decide +kernel) rfl rfl rfl (by decide +kernel)
set_option maxRecDepth 65536 in
theorem w_c4 : (Jvm.Cond.code ({ cls := "com/example/nearlane/nearlane/model/Resources", name := "equals", desc := "(Ljava/lang/Object;)Z" } : Jvm.MethodName) prog_174_method_2_code (3 : Nat) (Option.some Jvm.ClassFile.FieldType.boolean)).before args0 about1 = true := code_word (m := ⟨3, 1⟩) (meth := k3m1) (c := k3c1) (by decide +kernel) rfl rfl rfl (by decide +kernel)
set_option maxRecDepth 65536 in
theorem w_c5 : (Jvm.Cond.code ({ cls := "java/lang/Long", name := "valueOf", desc := "(J)Ljava/lang/Long;" } : Jvm.MethodName) jdk_35_method_24_code (3 : Nat) (Option.some (Jvm.ClassFile.FieldType.object "java/lang/Long"))).before args0 about1 = true := code_word (m := ⟨9, 0⟩) (meth := k9m0) (c := k9c0) (by decide +kernel) rfl rfl rfl (by decide +kernel)
set_option maxRecDepth 65536 in
theorem w_c6 : (Jvm.Cond.code ({ cls := "java/lang/Long", name := "<init>", desc := "(J)V" } : Jvm.MethodName) jdk_35_method_26_code (3 : Nat) (Option.none : Option Jvm.ClassFile.FieldType)).before args0 about1 = true := code_word (m := ⟨9, 1⟩) (meth := k9m1) (c := k9c1) (by decide +kernel) rfl rfl rfl (by decide +kernel)
set_option maxRecDepth 65536 in
theorem w_c7 : (Jvm.Cond.code ({ cls := "java/lang/Number", name := "<init>", desc := "()V" } : Jvm.MethodName) jdk_18_method_1_code (1 : Nat) (Option.none : Option Jvm.ClassFile.FieldType)).before args0 about1 = true := code_word (m := ⟨5, 0⟩) (meth := k5m0) (c := k5c0) (by decide +kernel) rfl rfl rfl (by decide +kernel)
def codes1 : List Jvm.Cond := [Jvm.Cond.code x code maxLocals ret, Jvm.Cond.code ({ cls := "com/example/nearlane/nearlane/model/Resources", name := "<init>", desc := "(JJJ)V" } : Jvm.MethodName) prog_174_method_1_code (7 : Nat) (Option.none : Option Jvm.ClassFile.FieldType), Jvm.Cond.code ({ cls := "java/lang/Record", name := "<init>", desc := "()V" } : Jvm.MethodName) jdk_30_method_1_code (1 : Nat) (Option.none : Option Jvm.ClassFile.FieldType), Jvm.Cond.code ({ cls := "java/lang/Object", name := "<init>", desc := "()V" } : Jvm.MethodName) object_method_1_code (1 : Nat) (Option.none : Option Jvm.ClassFile.FieldType), Jvm.Cond.code ({ cls := "com/example/nearlane/nearlane/model/Resources", name := "equals", desc := "(Ljava/lang/Object;)Z" } : Jvm.MethodName) prog_174_method_2_code (3 : Nat) (Option.some Jvm.ClassFile.FieldType.boolean), Jvm.Cond.code ({ cls := "java/lang/Long", name := "valueOf", desc := "(J)Ljava/lang/Long;" } : Jvm.MethodName) jdk_35_method_24_code (3 : Nat) (Option.some (Jvm.ClassFile.FieldType.object "java/lang/Long")), Jvm.Cond.code ({ cls := "java/lang/Long", name := "<init>", desc := "(J)V" } : Jvm.MethodName) jdk_35_method_26_code (3 : Nat) (Option.none : Option Jvm.ClassFile.FieldType), Jvm.Cond.code ({ cls := "java/lang/Number", name := "<init>", desc := "()V" } : Jvm.MethodName) jdk_18_method_1_code (1 : Nat) (Option.none : Option Jvm.ClassFile.FieldType)]
set_option maxRecDepth 65536 in
theorem codes_eq : words1.filter isCode = codes1 := rfl
theorem w_codes : ∀ c ∈ words1.filter isCode, c.before args0 about1 = true := by
  rw [codes_eq]
  intro c hc
  simp only [codes1, List.mem_cons, List.not_mem_nil, or_false] at hc
  rcases hc with rfl | rfl | rfl | rfl | rfl | rfl | rfl | rfl
  · exact w_c0
  · exact w_c1
  · exact w_c2
  · exact w_c3
  · exact w_c4
  · exact w_c5
  · exact w_c6
  · exact w_c7
set_option maxRecDepth 65536 in
theorem w_t1 : (words1.take 24).all (fun c => isCode c || c.before args0 about1) = true := by decide +kernel
set_option maxRecDepth 65536 in
theorem w_t2 : ((words1.drop 24).take 24).all (fun c => isCode c || c.before args0 about1) = true := by decide +kernel
set_option maxRecDepth 65536 in
theorem w_t3 : ((words1.drop 24).drop 24).all (fun c => isCode c || c.before args0 about1) = true := by decide +kernel
theorem w_tables : (allAtoms (Jvm.Cond.code x code maxLocals ret :: tables_1)).before args0 about1 = true := by
  rw [allAtoms_all]
  show words1.all (fun c => c.before args0 about1) = true
  refine all_split ?_ w_codes
  rw [← List.take_append_drop 24 words1, List.all_append, w_t1, ← List.take_append_drop 24 (words1.drop 24), List.all_append, w_t2, w_t3]
  rfl
set_option maxRecDepth 65536 in
theorem w_rest : rest_1_c.before args0 about1 = true := by decide +kernel
set_option maxRecDepth 65536 in
theorem w_case : (Jvm.Cond.and given_1 narrow_1).before args0 about1 = true := by decide +kernel
theorem w_applies : (headSpec (Jvm.Cond.code x code maxLocals ret :: tables_1) room_1).applies x e0.platform about1 = true :=
  (Spec.applies_iff w_frames).mpr ⟨w_running, w_runnable, w_alone, w_named, w_hears, w_ripe, w_room, w_tables⟩
theorem atStart : AtStart classFile x code maxLocals ret World_1 tables_1 room_1 Calls_1 rest_1 Pre_1 launch0 p0 e0 about1 theMethod args0 below0 :=
  ⟨lists_1, trivial, launch0.admits_env _ _ _, launch0.least_env, fairChoices_fair.cas, fairChoices_fair.clock, w_frames, w_args, w_heap, w_applies, trivial, w_rest, w_case⟩
end start1
theorem witness_1 : WitnessClaimed_1 := ⟨start1.p0, start1.e0, start1.about1, start1.theMethod, start1.args0, start1.below0, start1.atStart⟩
end Jvm.Pilot.@@N@@
