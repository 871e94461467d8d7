import JvmDerived
import JvmDerived.Pilot.@@N@@Statement
import JvmDerived.Pilot.@@N@@Code
set_option linter.unusedVariables false
set_option linter.unusedSimpArgs false
namespace Jvm.RoadKit
open Sem ClassFile Op Lib Jvm.Stand Jvm.Free Jvm.LawKit
section New
variable {p : Program} {l : Launch} {e : Env} {R : Room} {s : State} {m : MethodId} {args : Array Value} {below : List Frame} {meth : Method} {c : Code} {T : State} {locs : List Loc} {cells slots : Nat}
theorem retI (X : Stand p l e R s m args below meth c T locs cells slots) (hx : p.tables.exec = Jvm.exec) {pc : Nat} {Ls : Array Slot} {z : Int32} {rest : List Value} (hret : meth.sig.returnType = some .int) (hd : decode c.code pc = .ok (.ireturn, 1)) {fs : List Frame}
    (hl : ∀ (f : JFrame) (acts : List Action), f.method = m → f.locked = none → f.entered = [] → (doReturn e (T.setTop f) acts (some (.int z))).1 = T.setFrames fs) : Steps p.tables e below (T.setTop (mkF m pc Ls (.int z :: rest))) (T.setFrames fs) := by
  have hm' : T.vm.method? m = some meth := X.method'
  have hn : narrow .int (.int z) = .int z := rfl
  show Steps p.tables e below (T.setTop { method := m, pc := pc, locals := Ls, stack := _ :: rest, locked := none }) _
  jvm_step X.here [X.here.top, hx, hd, hm', hret, hn]
  first | (intro acts; rw [hl _ acts rfl rfl rfl]) | rw [hl _ _ rfl rfl rfl]
  exact Steps.refl _
end New
end Jvm.RoadKit
namespace Jvm.Pilot.@@N@@
open Jvm Jvm.ClassFile Sem Op Lib Jvm.Free Jvm.Stand Jvm.LawKit Jvm.RoadKit Bundle Jvm.Pilot.@@N@@.Jvm.D
/-- a boolean of the law's, as the int that the machine holds -/
def bI (P : Prop) [Decidable P] : Int32 := if P then 1 else 0
theorem bI_t {P : Prop} [Decidable P] (h : P) : bI P = (1 : Int32) := if_pos h
theorem bI_f {P : Prop} [Decidable P] (h : ¬ P) : bI P = (0 : Int32) := if_neg h
theorem bI_n {P : Prop} [Decidable P] (h : P) : ¬ (bI P = (0 : Int32)) := by rw [bI_t h]; decide
theorem bI_iff {P Q : Prop} [Decidable P] [Decidable Q] (h : P ↔ Q) : bI P = bI Q := by
  by_cases p : P
  · rw [bI_t p, bI_t (h.mp p)]
  · rw [bI_f p, bI_f fun q => p (h.mpr q)]
theorem bI_nar {P : Prop} [Decidable P] : nar .boolean (bI P) = bI P := by
  by_cases p : P
  · rw [bI_t p]; rfl
  · rw [bI_f p]; rfl
theorem own_sel {args : Array Value} {s : State} {y z : MethodName} (hn : (Jvm.Cond.instanceMethod y).before args s = true) (hp : (Jvm.Cond.privateMethod y).before args s = true) (hs : (Jvm.Cond.selects y.cls z z).before args s = true) (hz : z.cls = y.cls) (hx : y.cls ≠ "java/lang/invoke/MethodHandle" ∧ y.cls ≠ "java/lang/invoke/VarHandle") : (Jvm.Cond.selects y.cls y y).before args s = true := by
  obtain ⟨mk, methM, hnamed, hmethM, hstM, habM⟩ := Cond.instanceMethod_spec hn
  have hpr := Cond.privateMethod_at hp mk methM hnamed hmethM
  obtain ⟨c2, r2, m2, q1, q2, q3, q4, kP, hkP, hkPi⟩ := Cond.selects_spec hs
  have hf := State.methodFound?_of_named hnamed hx
  have c1 := findClass_of_methodNamed hnamed
  have c3 := findClass_of_methodNamed q3
  rw [hz] at c3
  have e : m2.cls = mk.cls := Option.some.inj (c3.symm.trans c1)
  rw [e] at hkP
  refine Cond.before_iff.mpr ?_
  simp [Cond.value, q1, hf, hnamed, selectMethod_private hmethM hpr, hkP, hkPi]
theorem own_irem (x y : Int32) : x - (x / y) * y = x % y := by
  apply Int32.toInt_inj.mp
  have h1 := Int32.le_toInt (x % y)
  have h2 := Int32.toInt_lt (x % y)
  rw [Int32.toInt_sub, Int32.toInt_mul, Int32.toInt_div, Int.bmod_mul_bmod, Int.sub_bmod_bmod, Int.mul_comm (x.toInt.tdiv y.toInt), ← Int.tmod_def, ← Int32.toInt_mod]
  exact Int.bmod_eq_of_le_mul_two (by omega) (by omega)
theorem own_1 : (1 : Int32).toInt = 1 := by decide
theorem own_0 : (0 : Int32).toInt = 0 := by decide
theorem own_n (a : Int32) : 0 ≤ (a &&& (7 : Int32)).toInt ∧ (a &&& (7 : Int32)).toInt ≤ 7 := by
  rw [c_mask a 7 3 (by decide) (by decide)]; omega
theorem own_nz (n : Int32) (h : 0 ≤ n.toInt ∧ n.toInt ≤ 7) : (n + (1 : Int32)) ≠ (0 : Int32) := fun e => by
  have c := c_iadd n 1
  rw [e, own_1, own_0] at c
  omega
theorem own_rm (b n : Int32) (h : 0 ≤ n.toInt ∧ n.toInt ≤ 7) : 0 ≤ ((b &&& (2147483647 : Int32)) - ((b &&& (2147483647 : Int32)) / (n + (1 : Int32))) * (n + (1 : Int32))).toInt ∧ ((b &&& (2147483647 : Int32)) - ((b &&& (2147483647 : Int32)) / (n + (1 : Int32))) * (n + (1 : Int32))).toInt ≤ n.toInt := by
  rw [own_irem]
  have e1 := c_mask b 2147483647 31 (by decide) (by decide)
  have h0 : 0 ≤ (b &&& (2147483647 : Int32)).toInt := by rw [e1]; exact Int.emod_nonneg _ (by decide)
  have c := c_iadd n 1
  have r := rng32 (n + 1)
  rw [own_1] at c
  have q := (c_iremV (b &&& 2147483647) (n + 1)).1 h0 (by omega)
  omega
theorem own_rem (n o : Int32) (h : 0 ≤ n.toInt ∧ n.toInt ≤ 7) (h2 : 0 ≤ o.toInt ∧ o.toInt ≤ n.toInt) : (n - o).toInt = n.toInt - o.toInt := by
  have c := c_isub n o
  have r := rng32 (n - o)
  omega
theorem own_nat (x : Int32) (h : 0 ≤ x.toInt) : (x.toNatClampNeg : Int) = x.toInt := by
  have q : ¬ x < 0 := by rw [Int32.lt_iff_toInt_lt, own_0]; omega
  exact (nat_of q).symm
theorem own_neg (x : Int32) (h : 0 ≤ x.toInt) : ¬ x < 0 := by rw [Int32.lt_iff_toInt_lt, own_0]; omega
theorem own_cap (x : Int32) (h : 0 ≤ x.toInt) (h2 : x.toInt ≤ 7) : x.toNatClampNeg ≤ 7 := by have := own_nat x h; omega
theorem own_add (p k z : Int32) (h0 : 0 ≤ p.toInt) (h1 : 0 ≤ k.toInt) (h2 : p.toInt + k.toInt ≤ z.toInt) (h3 : z.toInt ≤ 7) : (p + k).toInt = p.toInt + k.toInt := by
  have c := c_iadd p k
  have r := rng32 (p + k)
  omega
theorem own_sub (z p : Int32) (h0 : 0 ≤ p.toInt) (h1 : p.toInt ≤ z.toInt) (h3 : z.toInt ≤ 7) : (z - p).toInt = z.toInt - p.toInt := by
  have c := c_isub z p
  have r := rng32 (z - p)
  omega
theorem own_min (a b : Int32) : (if b < a then b else a).toInt ≤ a.toInt ∧ (if b < a then b else a).toInt ≤ b.toInt ∧ ((if b < a then b else a) = a ∨ (if b < a then b else a) = b) := by
  by_cases h : b < a
  · rw [if_pos h]; rw [Int32.lt_iff_toInt_lt] at h; exact ⟨by omega, by omega, Or.inr rfl⟩
  · rw [if_neg h]; rw [Int32.lt_iff_toInt_lt] at h; exact ⟨by omega, by omega, Or.inl rfl⟩
theorem own_fin (o k n : Int32) : bI (((o + (1 : Int32)) + (k - (1 : Int32))) = n) = bI ((o + k) = n) := by
  have e : (o + (1 : Int32)) + (k - (1 : Int32)) = o + k := by
    refine Int32.toInt_inj.mp ?_
    have c1 := c_iadd o 1
    have c2 := c_isub k 1
    have c3 := c_iadd (o + 1) (k - 1)
    have c4 := c_iadd o k
    have r3 := rng32 ((o + 1) + (k - 1))
    have r4 := rng32 (o + k)
    rw [own_1] at c1 c2
    omega
  rw [e]
theorem d9_0 : decode jdk_29_method_69_code 0 = .ok (.iload_n 0, 1) := by decide +kernel
theorem d9_1 : decode jdk_29_method_69_code 1 = .ok (.iload_n 1, 1) := by decide +kernel
theorem d9_2 : decode jdk_29_method_69_code 2 = .ok (.if_icmp .gt 7, 3) := by decide +kernel
theorem d9_5 : decode jdk_29_method_69_code 5 = .ok (.iload_n 0, 1) := by decide +kernel
theorem d9_6 : decode jdk_29_method_69_code 6 = .ok (.goto 4, 3) := by decide +kernel
theorem d9_9 : decode jdk_29_method_69_code 9 = .ok (.iload_n 1, 1) := by decide +kernel
theorem d9_10 : decode jdk_29_method_69_code 10 = .ok (.ireturn, 1) := by decide +kernel
theorem ef_9 (m : MethodId) (x0 : Int32) (x1 : Int32) : entryFrame m #[(.int x0), (.int x1)] 2 = mkF m 0 #[.val (.int x0), .val (.int x1)] [] := by first | (simp [entryFrame, mkF, argsToLocals, Value.category]; done) | rfl
def Q9 (Z : State) (p9_0 : Int32) (p9_1 : Int32) (h0 : Heap) (n0 : Nat) (v : Option Value) (h : Heap) (L : List Loc) : Prop := v = some (.int (if p9_1 < p9_0 then p9_1 else p9_0)) ∧ Fr n0 L ∧ h = h0
set_option maxRecDepth 65536 in
set_option maxHeartbeats 40000000 in
theorem rm9 (l : Launch) (Z : State) (a0 : Array Value) (hw : ∀ d ∈ tables_1, d.before a0 Z = true) (ws : List Jvm.Cond) (p9_0 : Int32) (p9_1 : Int32) (h0 : Heap) (n0 : Nat) (Z0 : n0 ≤ h0.size) :
    MetFree l (⟨"java/lang/Math", "min", "(II)I"⟩ : MethodName) (head1 (Jvm.Cond.code (⟨"java/lang/Math", "min", "(II)I"⟩ : MethodName) jdk_29_method_69_code 2 (some .int) :: ws) ({ frames := 0, cells := 0, slots := 0, locals := 0 } : Room)) (fun a U => a = #[(.int p9_0), (.int p9_1)] ∧ Z.Warmed39 U.vm ∧ U.heap = h0) (fun _ _ _ _ _ => True) (fun _ U o U' => ∃ v L, o = .returned v ∧ Q9 Z p9_0 p9_1 h0 n0 v U'.heap L ∧ FrameEnd U o U' L ({ frames := 0, cells := 0, slots := 0, locals := 0 } : Room).cells ({ frames := 0, cells := 0, slots := 0, locals := 0 } : Room).slots) := by
  refine MetFree.of_bodySF (Jvm.Free.JP.mathPlain rfl (by decide +kernel)) hisR ?_
  intro p e s m args below meth c s₁ Bd hml0 hP hK
  obtain ⟨rfl, hZ, hh⟩ := hP
  have hVV : ∀ (i : Nat) (d : Jvm.Cond), tables_1[i]? = some d → d.before a0 Z = true := fun i d h => hw d (List.mem_of_getElem? h)
  have hx := Bd.exec
  have hby := Bd.bytes
  have hml : c.maxLocals = 2 := hml0
  have hown : s.vm.findClass "java/lang/Math" = some m.cls := findClass_of_methodNamed Bd.named
  have hnm := (name_of_methodNamed Bd.named Bd.method).1
  have X0 : Stand p l e ({ frames := 0, cells := 0, slots := 0, locals := 0 } : Room) s m #[(.int p9_0), (.int p9_1)] below meth c s₁ [] 0 0 := Stand.of_body Bd
  have e0 : s₁.heap = h0 := by rw [← hh, Bd.state]; rfl
  have N0 := Fr.nil n0
  have pre0 : ∀ t, Steps p.tables e below (s₁.setTop (mkF m 0 #[.val (.int p9_0), .val (.int p9_1)] [])) t → Steps p.tables e below (s₁.setTop (entryFrame m #[(.int p9_0), (.int p9_1)] 2)) t := fun t k => castTop (ef_9 m p9_0 p9_1) k
  have pre2 : ∀ t, Steps p.tables e below (s₁.setTop (mkF m 2 #[.val (.int p9_0), .val (.int p9_1)] [(.int p9_1), (.int p9_0)])) t → Steps p.tables e below (s₁.setTop (entryFrame m #[(.int p9_0), (.int p9_1)] 2)) t := fun t k => pre0 t (by
    show Steps p.tables e below (s₁.setTop (mkF m 0 #[.val (.int p9_0), .val (.int p9_1)] [])) _
    refine XS.iloadN X0.here hx rfl (hb hby d9_0) rfl ?_
    show Steps p.tables e below (s₁.setTop (mkF m 1 #[.val (.int p9_0), .val (.int p9_1)] [(.int p9_0)])) _
    refine XS.iloadN X0.here hx rfl (hb hby d9_1) rfl ?_
    exact k)
  have pre3 : ∀ t, Steps p.tables e below (s₁.setTop (mkF m 10 #[.val (.int p9_0), .val (.int p9_1)] [(.int (if p9_1 < p9_0 then p9_1 else p9_0))])) t → Steps p.tables e below (s₁.setTop (entryFrame m #[(.int p9_0), (.int p9_1)] 2)) t := fun t k => pre2 t (by
    by_cases hc1 : p9_1 < p9_0
    · show Steps p.tables e below (s₁.setTop (mkF m 2 #[.val (.int p9_0), .val (.int p9_1)] [(.int p9_1), (.int p9_0)])) _
      refine XS.icmpYes X0.here hx rfl (pc0 := 2) (pc' := 9) rfl (hb hby d9_2) rfl (tlt hc1).2.2.1 (by decide) (by decide) ?_
      show Steps p.tables e below (s₁.setTop (mkF m 9 #[.val (.int p9_0), .val (.int p9_1)] [])) _
      refine XS.iloadN X0.here hx rfl (hb hby d9_9) rfl ?_
      have q4 : (if p9_1 < p9_0 then p9_1 else p9_0) = p9_1 := (if_pos hc1)
      exact castTop (g := (mkF m 10 #[.val (.int p9_0), .val (.int p9_1)] [(.int p9_1)])) (g' := (mkF m 10 #[.val (.int p9_0), .val (.int p9_1)] [(.int (if p9_1 < p9_0 then p9_1 else p9_0))])) (by simp only [q4]) k
    · show Steps p.tables e below (s₁.setTop (mkF m 2 #[.val (.int p9_0), .val (.int p9_1)] [(.int p9_1), (.int p9_0)])) _
      refine XS.icmpNo X0.here hx rfl (hb hby d9_2) rfl (flt hc1).2.2.1 ?_
      show Steps p.tables e below (s₁.setTop (mkF m 5 #[.val (.int p9_0), .val (.int p9_1)] [])) _
      refine XS.iloadN X0.here hx rfl (hb hby d9_5) rfl ?_
      show Steps p.tables e below (s₁.setTop (mkF m 6 #[.val (.int p9_0), .val (.int p9_1)] [(.int p9_0)])) _
      refine XS.goto X0.here hx rfl (pc0 := 6) (pc' := 10) rfl (hb hby d9_6) (by decide) (by decide) ?_
      have q5 : (if p9_1 < p9_0 then p9_1 else p9_0) = p9_0 := (if_neg hc1)
      exact castTop (g := (mkF m 10 #[.val (.int p9_0), .val (.int p9_1)] [(.int p9_0)])) (g' := (mkF m 10 #[.val (.int p9_0), .val (.int p9_1)] [(.int (if p9_1 < p9_0 then p9_1 else p9_0))])) (by simp only [q5]) k)
  obtain ⟨fs, hr, hrun, hended, hW, hsame⟩ := X0.leave (v := some (.int (if p9_1 < p9_0 then p9_1 else p9_0))) (fun h => by rw [Bd.returns] at h; cases h)
  refine ⟨_, _, pre3 _ ?_, hrun, hended, _, _, rfl, ?_, ⟨_, rfl⟩, hW, hsame.mono (by decide) (by decide)⟩
  · show Steps p.tables e below (s₁.setTop (mkF m 10 #[.val (.int p9_0), .val (.int p9_1)] [(.int (if p9_1 < p9_0 then p9_1 else p9_0))])) _
    exact retI X0 hx Bd.returns (hb hby d9_10) hr
  · show Q9 Z p9_0 p9_1 h0 n0 _ s₁.heap _
    rw [e0]
    exact ⟨rfl, N0, rfl⟩
theorem d8_0 : decode jdk_65_method_131_code 0 = .ok (.iload_n 1, 1) := by decide +kernel
theorem d8_1 : decode jdk_65_method_131_code 1 = .ok (.iload_n 0, 1) := by decide +kernel
theorem d8_2 : decode jdk_65_method_131_code 2 = .ok (.if_icmp .ge 35, 3) := by decide +kernel
theorem d8_37 : decode jdk_65_method_131_code 37 = .ok (.return_, 1) := by decide +kernel
theorem pn_8 : plainName "java/util/Arrays" = true := by first | (simp [plainName, overriddenIn]; done) | decide +kernel
theorem ef_8 (m : MethodId) (x0 : Int32) (x1 : Int32) : entryFrame m #[(.int x0), (.int x1)] 2 = mkF m 0 #[.val (.int x0), .val (.int x1)] [] := by first | (simp [entryFrame, mkF, argsToLocals, Value.category]; done) | rfl
def Q8 (Z : State) (p8_0 : Int32) (p8_1 : Int32) (h0 : Heap) (n0 : Nat) (v : Option Value) (h : Heap) (L : List Loc) : Prop := v = none ∧ Fr n0 L ∧ h = h0
set_option maxRecDepth 65536 in
set_option maxHeartbeats 40000000 in
theorem rm8 (l : Launch) (Z : State) (a0 : Array Value) (hw : ∀ d ∈ tables_1, d.before a0 Z = true) (ws : List Jvm.Cond) (p8_0 : Int32) (p8_1 : Int32) (h0 : Heap) (n0 : Nat) (Z0 : n0 ≤ h0.size) (hp8_2 : ¬ (p8_1 < p8_0)) :
    MetFree l (⟨"java/util/Arrays", "checkLength", "(II)V"⟩ : MethodName) (head1 (Jvm.Cond.code (⟨"java/util/Arrays", "checkLength", "(II)V"⟩ : MethodName) jdk_65_method_131_code 2 none :: ws) ({ frames := 0, cells := 0, slots := 0, locals := 0 } : Room)) (fun a U => a = #[(.int p8_0), (.int p8_1)] ∧ Z.Warmed39 U.vm ∧ U.heap = h0) (fun _ _ _ _ _ => True) (fun _ U o U' => ∃ v L, o = .returned v ∧ Q8 Z p8_0 p8_1 h0 n0 v U'.heap L ∧ FrameEnd U o U' L ({ frames := 0, cells := 0, slots := 0, locals := 0 } : Room).cells ({ frames := 0, cells := 0, slots := 0, locals := 0 } : Room).slots) := by
  refine MetFree.of_bodySF (plainFor_of_name pn_8) hisR ?_
  intro p e s m args below meth c s₁ Bd hml0 hP hK
  obtain ⟨rfl, hZ, hh⟩ := hP
  have hVV : ∀ (i : Nat) (d : Jvm.Cond), tables_1[i]? = some d → d.before a0 Z = true := fun i d h => hw d (List.mem_of_getElem? h)
  have hx := Bd.exec
  have hby := Bd.bytes
  have hml : c.maxLocals = 2 := hml0
  have hown : s.vm.findClass "java/util/Arrays" = some m.cls := findClass_of_methodNamed Bd.named
  have hnm := (name_of_methodNamed Bd.named Bd.method).1
  have X0 : Stand p l e ({ frames := 0, cells := 0, slots := 0, locals := 0 } : Room) s m #[(.int p8_0), (.int p8_1)] below meth c s₁ [] 0 0 := Stand.of_body Bd
  have e0 : s₁.heap = h0 := by rw [← hh, Bd.state]; rfl
  have N0 := Fr.nil n0
  have pre0 : ∀ t, Steps p.tables e below (s₁.setTop (mkF m 0 #[.val (.int p8_0), .val (.int p8_1)] [])) t → Steps p.tables e below (s₁.setTop (entryFrame m #[(.int p8_0), (.int p8_1)] 2)) t := fun t k => castTop (ef_8 m p8_0 p8_1) k
  obtain ⟨fs, hr, hrun, hended, hW, hsame⟩ := X0.leave (v := none) (fun _ => rfl)
  refine ⟨_, _, pre0 _ ?_, hrun, hended, _, _, rfl, ?_, ⟨_, rfl⟩, hW, hsame.mono (by decide) (by decide)⟩
  · show Steps p.tables e below (s₁.setTop (mkF m 0 #[.val (.int p8_0), .val (.int p8_1)] [])) _
    refine XS.iloadN X0.here hx rfl (hb hby d8_0) rfl ?_
    show Steps p.tables e below (s₁.setTop (mkF m 1 #[.val (.int p8_0), .val (.int p8_1)] [(.int p8_1)])) _
    refine XS.iloadN X0.here hx rfl (hb hby d8_1) rfl ?_
    show Steps p.tables e below (s₁.setTop (mkF m 2 #[.val (.int p8_0), .val (.int p8_1)] [(.int p8_0), (.int p8_1)])) _
    refine XS.icmpYes X0.here hx rfl (pc0 := 2) (pc' := 37) rfl (hb hby d8_2) rfl (flt hp8_2).2.1 (by decide) (by decide) ?_
    show Steps p.tables e below (s₁.setTop (mkF m 37 #[.val (.int p8_0), .val (.int p8_1)] [])) _
    exact X0.returnOut hx Bd.returns (hb hby d8_37) hr
  · show Q8 Z p8_0 p8_1 h0 n0 _ s₁.heap _
    rw [e0]
    exact ⟨rfl, N0, rfl⟩
theorem pd_0 : parseMethodDescriptor "(II)V" = some ⟨[.int, .int], none⟩ := by decide +kernel
theorem pd_1 : parseMethodDescriptor "(II)I" = some ⟨[.int, .int], some .int⟩ := by decide +kernel
theorem d7_0 : decode jdk_65_method_133_code 0 = .ok (.iload_n 1, 1) := by decide +kernel
theorem d7_1 : decode jdk_65_method_133_code 1 = .ok (.iload_n 2, 1) := by decide +kernel
theorem d7_2 : decode jdk_65_method_133_code 2 = .ok (.invokestatic 343, 3) := by decide +kernel
theorem d7_5 : decode jdk_65_method_133_code 5 = .ok (.iload_n 2, 1) := by decide +kernel
theorem d7_6 : decode jdk_65_method_133_code 6 = .ok (.iload_n 1, 1) := by decide +kernel
theorem d7_7 : decode jdk_65_method_133_code 7 = .ok (.isub, 1) := by decide +kernel
theorem d7_8 : decode jdk_65_method_133_code 8 = .ok (.istore_n 3, 1) := by decide +kernel
theorem d7_9 : decode jdk_65_method_133_code 9 = .ok (.iload_n 3, 1) := by decide +kernel
theorem d7_10 : decode jdk_65_method_133_code 10 = .ok (.newarray .byte, 2) := by decide +kernel
theorem d7_12 : decode jdk_65_method_133_code 12 = .ok (.astore 4, 2) := by decide +kernel
theorem d7_14 : decode jdk_65_method_133_code 14 = .ok (.aload_n 0, 1) := by decide +kernel
theorem d7_15 : decode jdk_65_method_133_code 15 = .ok (.iload_n 1, 1) := by decide +kernel
theorem d7_16 : decode jdk_65_method_133_code 16 = .ok (.aload 4, 2) := by decide +kernel
theorem d7_18 : decode jdk_65_method_133_code 18 = .ok (.iconst 0, 1) := by decide +kernel
theorem d7_19 : decode jdk_65_method_133_code 19 = .ok (.aload_n 0, 1) := by decide +kernel
theorem d7_20 : decode jdk_65_method_133_code 20 = .ok (.arraylength, 1) := by decide +kernel
theorem d7_21 : decode jdk_65_method_133_code 21 = .ok (.iload_n 1, 1) := by decide +kernel
theorem d7_22 : decode jdk_65_method_133_code 22 = .ok (.isub, 1) := by decide +kernel
theorem d7_23 : decode jdk_65_method_133_code 23 = .ok (.iload_n 3, 1) := by decide +kernel
theorem d7_24 : decode jdk_65_method_133_code 24 = .ok (.invokestatic 304, 3) := by decide +kernel
theorem d7_27 : decode jdk_65_method_133_code 27 = .ok (.invokestatic 150, 3) := by decide +kernel
theorem d7_30 : decode jdk_65_method_133_code 30 = .ok (.aload 4, 2) := by decide +kernel
theorem d7_32 : decode jdk_65_method_133_code 32 = .ok (.areturn, 1) := by decide +kernel
theorem pn_7 : plainName "java/util/Arrays" = true := by first | (simp [plainName, overriddenIn]; done) | decide +kernel
theorem ef_7 (m : MethodId) (x0 : Addr) (x1 : Int32) (x2 : Int32) : entryFrame m #[(.ref x0), (.int x1), (.int x2)] 5 = mkF m 0 #[.val (.ref x0), .val (.int x1), .val (.int x2), .unset, .unset] [] := by first | (simp [entryFrame, mkF, argsToLocals, Value.category]; done) | rfl
def Q7 (Z : State) (a7_0 : Addr) (p7_1 : Int32) (p7_2 : Int32) (ka : ClassId) (zz : Int32) (r7 : Addr) (h0 : Heap) (n0 : Nat) (v : Option Value) (h : Heap) (L : List Loc) : Prop := v = some (.ref r7) ∧ Fr n0 L ∧ Keep h0 h []
set_option maxRecDepth 65536 in
set_option maxHeartbeats 40000000 in
theorem rm7 (l : Launch) (Z : State) (a0 : Array Value) (hw : ∀ d ∈ tables_1, d.before a0 Z = true) (ws : List Jvm.Cond) (a7_0 : Addr) (p7_1 : Int32) (p7_2 : Int32) (ka : ClassId) (zz : Int32) (r7 : Addr) (h0 : Heap) (n0 : Nat) (Z0 : n0 ≤ h0.size) (VA : Arv Z h0 a7_0 ka .byte zz [] (.int (0 : Int32))) (EA : Exa Z h0 a7_0 "[B") (gr_r7 : r7 = h0.size) (hlo : 0 ≤ p7_1.toInt) (hlh : p7_1.toInt ≤ p7_2.toInt) (hhz : p7_2.toInt ≤ zz.toInt) (hz7 : zz.toInt ≤ 7) :
    MetFree l (⟨"java/util/Arrays", "copyOfRangeByte", "([BII)[B"⟩ : MethodName) (head1 (Jvm.Cond.code (⟨"java/util/Arrays", "copyOfRangeByte", "([BII)[B"⟩ : MethodName) jdk_65_method_133_code 5 (some (.array .byte)) :: ws) ({ frames := 1, cells := 1, slots := 7, locals := 18 } : Room)) (fun a U => a = #[(.ref a7_0), (.int p7_1), (.int p7_2)] ∧ Z.Warmed39 U.vm ∧ U.heap = h0) (fun _ _ _ _ _ => True) (fun _ U o U' => ∃ v L, o = .returned v ∧ Q7 Z a7_0 p7_1 p7_2 ka zz r7 h0 n0 v U'.heap L ∧ FrameEnd U o U' L ({ frames := 1, cells := 1, slots := 7, locals := 18 } : Room).cells ({ frames := 1, cells := 1, slots := 7, locals := 18 } : Room).slots) := by
  refine MetFree.of_bodySF (plainFor_of_name pn_7) hisR ?_
  intro p e s m args below meth c s₁ Bd hml0 hP hK
  obtain ⟨rfl, hZ, hh⟩ := hP
  have hVV : ∀ (i : Nat) (d : Jvm.Cond), tables_1[i]? = some d → d.before a0 Z = true := fun i d h => hw d (List.mem_of_getElem? h)
  have hx := Bd.exec
  have hby := Bd.bytes
  have hml : c.maxLocals = 5 := hml0
  have hown : s.vm.findClass "java/util/Arrays" = some m.cls := findClass_of_methodNamed Bd.named
  have hnm := (name_of_methodNamed Bd.named Bd.method).1
  have X0 : Stand p l e ({ frames := 1, cells := 1, slots := 7, locals := 18 } : Room) s m #[(.ref a7_0), (.int p7_1), (.int p7_2)] below meth c s₁ [] 0 0 := Stand.of_body Bd
  have e0 : s₁.heap = h0 := by rw [← hh, Bd.state]; rfl
  have N0 := Fr.nil n0
  have pre0 : ∀ t, Steps p.tables e below (s₁.setTop (mkF m 0 #[.val (.ref a7_0), .val (.int p7_1), .val (.int p7_2), .unset, .unset] [])) t → Steps p.tables e below (s₁.setTop (entryFrame m #[(.ref a7_0), (.int p7_1), (.int p7_2)] 5)) t := fun t k => castTop (ef_7 m a7_0 p7_1 p7_2) k
  have hq2 : ¬ (p7_2 < p7_1) := by
    rw [Int32.lt_iff_toInt_lt]
    omega
  obtain ⟨_, _, ⟨T1, L1, k1, n1⟩, -, X1, ⟨Lc1, hQ1, l1, y1, z1⟩, st1⟩ := Jvm.LawKit.callS X0 hx (y := (⟨"java/util/Arrays", "checkLength", "(II)V"⟩ : MethodName)) hown (mvT hZ (hVV 47 _ rfl)) (mvT hZ (hVV 48 _ rfl)) (mvT hZ (hVV 31 _ rfl)) (mvT hZ (hVV 49 _ rfl)) (by decide) (backOf (W := 0) (rm8 l Z a0 hw [] p7_1 p7_2 h0 n0 Z0 hq2) hZ (hVV 49 _ rfl) (hVV 31 _ rfl) (by decide) (by decide)) (g := (mkF m 2 #[.val (.ref a7_0), .val (.int p7_1), .val (.int p7_2), .unset, .unset] [(.int p7_2), (.int p7_1)])) rfl (by rw [hml]; rfl) (argsL := [(.int p7_1), (.int p7_2)]) (rest := []) (lenOf pd_0 rfl) rfl (by show 2 * 0 + _ ≤ _; exact Nat.le_of_eq rfl) (hb hby d7_2) (fun _ _ => ⟨rfl, e0, (by decide : 0 + 0 ≤ _), (by decide : 0 + 0 ≤ _)⟩)
  dsimp only [Pt.U, Pt.locs, Pt.cells, Pt.slots] at X1 l1 y1 z1 st1 hQ1
  subst l1 y1 z1
  obtain ⟨rfl, N1q, e1⟩ := hQ1
  have N3 := Fr.app N0 N1q
  have pre4 : ∀ t, Steps p.tables e below (T1.setTop (mkF m 5 #[.val (.ref a7_0), .val (.int p7_1), .val (.int p7_2), .unset, .unset] [])) t → Steps p.tables e below (s₁.setTop (entryFrame m #[(.ref a7_0), (.int p7_1), (.int p7_2)] 5)) t := fun t k => pre0 t (by
    show Steps p.tables e below (s₁.setTop (mkF m 0 #[.val (.ref a7_0), .val (.int p7_1), .val (.int p7_2), .unset, .unset] [])) _
    refine XS.iloadN X0.here hx rfl (hb hby d7_0) rfl ?_
    show Steps p.tables e below (s₁.setTop (mkF m 1 #[.val (.ref a7_0), .val (.int p7_1), .val (.int p7_2), .unset, .unset] [(.int p7_1)])) _
    refine XS.iloadN X0.here hx rfl (hb hby d7_1) rfl ?_
    show Steps p.tables e below (s₁.setTop (mkF m 2 #[.val (.ref a7_0), .val (.int p7_1), .val (.int p7_2), .unset, .unset] [(.int p7_2), (.int p7_1)])) _
    refine st1 _ ?_
    exact k)
  have pre5 : ∀ t, Steps p.tables e below (T1.setTop (mkF m 9 #[.val (.ref a7_0), .val (.int p7_1), .val (.int p7_2), .val (.int (p7_2 - p7_1)), .unset] [])) t → Steps p.tables e below (s₁.setTop (entryFrame m #[(.ref a7_0), (.int p7_1), (.int p7_2)] 5)) t := fun t k => pre4 t (by
    show Steps p.tables e below (T1.setTop (mkF m 5 #[.val (.ref a7_0), .val (.int p7_1), .val (.int p7_2), .unset, .unset] [])) _
    refine XS.iloadN X1.here hx rfl (hb hby d7_5) rfl ?_
    show Steps p.tables e below (T1.setTop (mkF m 6 #[.val (.ref a7_0), .val (.int p7_1), .val (.int p7_2), .unset, .unset] [(.int p7_2)])) _
    refine XS.iloadN X1.here hx rfl (hb hby d7_6) rfl ?_
    show Steps p.tables e below (T1.setTop (mkF m 7 #[.val (.ref a7_0), .val (.int p7_1), .val (.int p7_2), .unset, .unset] [(.int p7_1), (.int p7_2)])) _
    refine XS.isub X1.here hx rfl (hb hby d7_7) rfl ?_
    show Steps p.tables e below (T1.setTop (mkF m 8 #[.val (.ref a7_0), .val (.int p7_1), .val (.int p7_2), .unset, .unset] [(.int (p7_2 - p7_1))])) _
    refine XS.istoreN X1.here hx rfl (hb hby d7_8) rfl (l' := #[.val (.ref a7_0), .val (.int p7_1), .val (.int p7_2), .val (.int (p7_2 - p7_1)), .unset]) rfl ?_
    exact k)
  obtain ⟨LEN, hLEN⟩ : ∃ z : Int32, z = (p7_2 - p7_1) := ⟨_, rfl⟩
  have pre6 : ∀ t, Steps p.tables e below (T1.setTop (mkF m 9 #[.val (.ref a7_0), .val (.int p7_1), .val (.int p7_2), .val (.int LEN), .unset] [])) t → Steps p.tables e below (s₁.setTop (entryFrame m #[(.ref a7_0), (.int p7_1), (.int p7_2)] 5)) t := fun t k => pre5 t (castTop (by rw [hLEN]) k)
  have hL : LEN.toInt = p7_2.toInt - p7_1.toInt := by
    rw [hLEN]
    exact own_sub _ _ hlo hlh (by omega)
  obtain ⟨T7, h7, k7, X7, e7, E7, A7, st7⟩ := newP X1 hx hZ (hVV 1 _ rfl) e1 (g := (mkF m 10 #[.val (.ref a7_0), .val (.int p7_1), .val (.int p7_2), .val (.int LEN), .unset] [(.int LEN)])) rfl (hb hby d7_10) rfl (own_neg _ (by omega)) (cap := 7) (own_cap _ (by omega) (by omega)) (by decide) (by decide) (by decide)
  have g7 := gr_r7
  rw [← g7] at A7 st7
  have gz7 : n0 ≤ r7 := Nat.le_trans Z0 (Nat.le_of_eq g7.symm)
  have sz7 : h0.size ≤ r7 := Nat.le_trans (Keep.refl h0 []).1 (Nat.le_of_eq g7.symm)
  have ne8 : a7_0 ≠ r7 := Nat.ne_of_lt (Nat.lt_of_lt_of_le VA.lt (Nat.le_of_eq g7.symm))
  have pre9 : ∀ t, Steps p.tables e below (T7.setTop (mkF m 12 #[.val (.ref a7_0), .val (.int p7_1), .val (.int p7_2), .val (.int LEN), .unset] [(.ref r7)])) t → Steps p.tables e below (s₁.setTop (entryFrame m #[(.ref a7_0), (.int p7_1), (.int p7_2)] 5)) t := fun t k => pre6 t (by
    show Steps p.tables e below (T1.setTop (mkF m 9 #[.val (.ref a7_0), .val (.int p7_1), .val (.int p7_2), .val (.int LEN), .unset] [])) _
    refine XS.iloadN X1.here hx rfl (hb hby d7_9) rfl ?_
    show Steps p.tables e below (T1.setTop (mkF m 10 #[.val (.ref a7_0), .val (.int p7_1), .val (.int p7_2), .val (.int LEN), .unset] [(.int LEN)])) _
    refine st7 _ ?_
    exact k)
  have f10 := VA.ext E7
  have f11 := EA.ext E7
  have z12 := Nat.le_trans Z0 E7.1
  have k13 := (Keep.refl h0 []).ext E7
  have V14 : Arv Z h7 r7 k7 .byte LEN [(.int (0 : Int32)), (.int (0 : Int32)), (.int (0 : Int32)), (.int (0 : Int32)), (.int (0 : Int32)), (.int (0 : Int32)), (.int (0 : Int32))] (.int (0 : Int32)) := (Arv.new A7 (own_neg _ (by omega))).pad (pad_rep [] (.int (0 : Int32)) 7)
  obtain ⟨cl15, Ar15, q15, S15, N15, H15, G15⟩ := id f10
  obtain ⟨_, _, ⟨T16, L16, k16, n16⟩, -, X16, ⟨Lc16, hQ16, l16, y16, z16⟩, st16⟩ := Jvm.LawKit.callS X7 hx (y := (⟨"java/lang/Math", "min", "(II)I"⟩ : MethodName)) hown (mvT hZ (hVV 50 _ rfl)) (mvT hZ (hVV 51 _ rfl)) (mvT hZ (hVV 52 _ rfl)) (mvT hZ (hVV 53 _ rfl)) (by decide) (backOf (W := 4) (rm9 l Z a0 hw [] (zz - p7_1) LEN h7 n0 z12 ) hZ (hVV 53 _ rfl) (hVV 52 _ rfl) (by decide) (by decide)) (g := (mkF m 24 #[.val (.ref a7_0), .val (.int p7_1), .val (.int p7_2), .val (.int LEN), .val (.ref r7)] [(.int LEN), (.int (zz - p7_1)), (.int (0 : Int32)), (.ref r7), (.int p7_1), (.ref a7_0)])) rfl (by rw [hml]; rfl) (argsL := [(.int (zz - p7_1)), (.int LEN)]) (rest := [(.int (0 : Int32)), (.ref r7), (.int p7_1), (.ref a7_0)]) (lenOf pd_1 rfl) rfl (by show 2 * 0 + _ ≤ _; exact Nat.le_of_eq rfl) (hb hby d7_24) (fun _ _ => ⟨rfl, e7, (by decide : 1 + 0 ≤ _), (by decide : 7 + 0 ≤ _)⟩)
  dsimp only [Pt.U, Pt.locs, Pt.cells, Pt.slots] at X16 l16 y16 z16 st16 hQ16
  subst l16 y16 z16
  obtain ⟨rfl, N16q, e16⟩ := hQ16
  have N17 := Fr.app N3 N16q
  have pre18 : ∀ t, Steps p.tables e below (T16.setTop (mkF m 27 #[.val (.ref a7_0), .val (.int p7_1), .val (.int p7_2), .val (.int LEN), .val (.ref r7)] [(.int (if LEN < (zz - p7_1) then LEN else (zz - p7_1))), (.int (0 : Int32)), (.ref r7), (.int p7_1), (.ref a7_0)])) t → Steps p.tables e below (s₁.setTop (entryFrame m #[(.ref a7_0), (.int p7_1), (.int p7_2)] 5)) t := fun t k => pre9 t (by
    show Steps p.tables e below (T7.setTop (mkF m 12 #[.val (.ref a7_0), .val (.int p7_1), .val (.int p7_2), .val (.int LEN), .unset] [(.ref r7)])) _
    refine XS.astore X7.here hx rfl (hb hby d7_12) rfl rfl (l' := #[.val (.ref a7_0), .val (.int p7_1), .val (.int p7_2), .val (.int LEN), .val (.ref r7)]) rfl ?_
    show Steps p.tables e below (T7.setTop (mkF m 14 #[.val (.ref a7_0), .val (.int p7_1), .val (.int p7_2), .val (.int LEN), .val (.ref r7)] [])) _
    refine XS.aloadN X7.here hx rfl (hb hby d7_14) rfl rfl ?_
    show Steps p.tables e below (T7.setTop (mkF m 15 #[.val (.ref a7_0), .val (.int p7_1), .val (.int p7_2), .val (.int LEN), .val (.ref r7)] [(.ref a7_0)])) _
    refine XS.iloadN X7.here hx rfl (hb hby d7_15) rfl ?_
    show Steps p.tables e below (T7.setTop (mkF m 16 #[.val (.ref a7_0), .val (.int p7_1), .val (.int p7_2), .val (.int LEN), .val (.ref r7)] [(.int p7_1), (.ref a7_0)])) _
    refine XS.aload X7.here hx rfl (hb hby d7_16) rfl rfl ?_
    show Steps p.tables e below (T7.setTop (mkF m 18 #[.val (.ref a7_0), .val (.int p7_1), .val (.int p7_2), .val (.int LEN), .val (.ref r7)] [(.ref r7), (.int p7_1), (.ref a7_0)])) _
    refine XS.iconst X7.here hx rfl (hb hby d7_18) ?_
    show Steps p.tables e below (T7.setTop (mkF m 19 #[.val (.ref a7_0), .val (.int p7_1), .val (.int p7_2), .val (.int LEN), .val (.ref r7)] [(.int (0 : Int32)), (.ref r7), (.int p7_1), (.ref a7_0)])) _
    refine XS.aloadN X7.here hx rfl (hb hby d7_19) rfl rfl ?_
    show Steps p.tables e below (T7.setTop (mkF m 20 #[.val (.ref a7_0), .val (.int p7_1), .val (.int p7_2), .val (.int LEN), .val (.ref r7)] [(.ref a7_0), (.int (0 : Int32)), (.ref r7), (.int p7_1), (.ref a7_0)])) _
    refine X7.arraylength hx (by rw [e7]; exact Ar15.1) (State.isArrayOf_alike hZ.alike Ar15.2.1) (g := (mkF m 20 #[.val (.ref a7_0), .val (.int p7_1), .val (.int p7_2), .val (.int LEN), .val (.ref r7)] [(.ref a7_0), (.int (0 : Int32)), (.ref r7), (.int p7_1), (.ref a7_0)])) rfl rfl (hb hby d7_20) _ ?_
    rw [len_of S15 N15]
    show Steps p.tables e below (T7.setTop (mkF m 21 #[.val (.ref a7_0), .val (.int p7_1), .val (.int p7_2), .val (.int LEN), .val (.ref r7)] [(.int zz), (.int (0 : Int32)), (.ref r7), (.int p7_1), (.ref a7_0)])) _
    refine XS.iloadN X7.here hx rfl (hb hby d7_21) rfl ?_
    show Steps p.tables e below (T7.setTop (mkF m 22 #[.val (.ref a7_0), .val (.int p7_1), .val (.int p7_2), .val (.int LEN), .val (.ref r7)] [(.int p7_1), (.int zz), (.int (0 : Int32)), (.ref r7), (.int p7_1), (.ref a7_0)])) _
    refine XS.isub X7.here hx rfl (hb hby d7_22) rfl ?_
    show Steps p.tables e below (T7.setTop (mkF m 23 #[.val (.ref a7_0), .val (.int p7_1), .val (.int p7_2), .val (.int LEN), .val (.ref r7)] [(.int (zz - p7_1)), (.int (0 : Int32)), (.ref r7), (.int p7_1), (.ref a7_0)])) _
    refine XS.iloadN X7.here hx rfl (hb hby d7_23) rfl ?_
    show Steps p.tables e below (T7.setTop (mkF m 24 #[.val (.ref a7_0), .val (.int p7_1), .val (.int p7_2), .val (.int LEN), .val (.ref r7)] [(.int LEN), (.int (zz - p7_1)), (.int (0 : Int32)), (.ref r7), (.int p7_1), (.ref a7_0)])) _
    refine st16 _ ?_
    exact k)
  obtain ⟨NN, hNN⟩ : ∃ z : Int32, z = (if LEN < (zz - p7_1) then LEN else (zz - p7_1)) := ⟨_, rfl⟩
  have pre19 : ∀ t, Steps p.tables e below (T16.setTop (mkF m 27 #[.val (.ref a7_0), .val (.int p7_1), .val (.int p7_2), .val (.int LEN), .val (.ref r7)] [(.int NN), (.int (0 : Int32)), (.ref r7), (.int p7_1), (.ref a7_0)])) t → Steps p.tables e below (s₁.setTop (entryFrame m #[(.ref a7_0), (.int p7_1), (.int p7_2)] 5)) t := fun t k => pre18 t (castTop (by rw [hNN]) k)
  have hs1 := own_sub zz p7_1 hlo (by omega) hz7
  have hmn := own_min (zz - p7_1) LEN
  rw [← hNN] at hmn
  have hN0 : 0 ≤ NN.toInt := by
    rcases hmn.2.2 with q | q
    · rw [q]; omega
    · rw [q]; omega
  have m1 := own_nat NN hN0
  have m2 := own_nat p7_1 hlo
  have m3 := own_nat zz (by omega)
  have m4 := own_nat LEN (by omega)
  have m5 : (0 : Int32).toNatClampNeg = 0 := by decide
  obtain ⟨T20, h20, L20, X20, e20, N20, K20, -, st20⟩ := cpA X16 hx hZ hown (hVV 54 _ rfl) (hVV 57 _ rfl) (hVV 55 _ rfl) (hVV 56 _ rfl) e16 f10 V14 (Or.inl ⟨rfl, rfl⟩) (own_neg _ hlo) (by decide) (own_neg _ hN0) (by omega) (by omega) rfl (by show (0 : Int32).toNatClampNeg + NN.toNatClampNeg ≤ 7; omega) N17 gz7 (g := (mkF m 27 #[.val (.ref a7_0), .val (.int p7_1), .val (.int p7_2), .val (.int LEN), .val (.ref r7)] [(.int NN), (.int (0 : Int32)), (.ref r7), (.int p7_1), (.ref a7_0)])) rfl (by rw [hml]; rfl) (rest := []) rfl (hb hby d7_27) (by decide) (W := 0) (by show 2 * 0 + _ ≤ _; exact Nat.le_of_eq rfl) (by decide)
  have pre21 : ∀ t, Steps p.tables e below (T20.setTop (mkF m 30 #[.val (.ref a7_0), .val (.int p7_1), .val (.int p7_2), .val (.int LEN), .val (.ref r7)] [])) t → Steps p.tables e below (s₁.setTop (entryFrame m #[(.ref a7_0), (.int p7_1), (.int p7_2)] 5)) t := fun t k => pre19 t (by
    show Steps p.tables e below (T16.setTop (mkF m 27 #[.val (.ref a7_0), .val (.int p7_1), .val (.int p7_2), .val (.int LEN), .val (.ref r7)] [(.int NN), (.int (0 : Int32)), (.ref r7), (.int p7_1), (.ref a7_0)])) _
    refine st20 _ ?_
    exact k)
  have f22 := f10.keep K20 (ninS ne8 nin0)
  have f23 := f11.keep K20
  have z24 := Nat.le_trans z12 K20.1
  have k25 := k13.trans K20 (allS (Or.inr sz7) all0)
  obtain ⟨fs, hr, hrun, hended, hW, hsame⟩ := X20.leave (v := some (.ref r7)) (fun h => by rw [Bd.returns] at h; cases h)
  refine ⟨_, _, pre21 _ ?_, hrun, hended, _, _, rfl, ?_, ⟨_, rfl⟩, hW, hsame.mono (by decide) (by decide)⟩
  · show Steps p.tables e below (T20.setTop (mkF m 30 #[.val (.ref a7_0), .val (.int p7_1), .val (.int p7_2), .val (.int LEN), .val (.ref r7)] [])) _
    refine XS.aload X20.here hx rfl (hb hby d7_30) rfl rfl ?_
    show Steps p.tables e below (T20.setTop (mkF m 32 #[.val (.ref a7_0), .val (.int p7_1), .val (.int p7_2), .val (.int LEN), .val (.ref r7)] [(.ref r7)])) _
    jvm_step X20.here [X20.here.top, hx, (hb hby d7_32), X20.method', Bd.returns, Value.isRef, FieldType.isReference]
    first | (intro acts; rw [hr _ acts rfl rfl rfl]) | rw [hr _ _ rfl rfl rfl]
    exact Steps.refl _
  · show Q7 Z a7_0 p7_1 p7_2 ka zz r7 h0 n0 _ T20.heap _
    rw [e20]
    exact ⟨rfl, N20, k25⟩
theorem pd_2 : parseMethodDescriptor "([BII)[B" = some ⟨[(.array .byte), .int, .int], some (.array .byte)⟩ := by decide +kernel
theorem d6_0 : decode jdk_65_method_132_code 0 = .ok (.iload_n 1, 1) := by decide +kernel
theorem d6_1 : decode jdk_65_method_132_code 1 = .ok (.ifCond .ne 9, 3) := by decide +kernel
theorem d6_4 : decode jdk_65_method_132_code 4 = .ok (.iload_n 2, 1) := by decide +kernel
theorem d6_5 : decode jdk_65_method_132_code 5 = .ok (.aload_n 0, 1) := by decide +kernel
theorem d6_6 : decode jdk_65_method_132_code 6 = .ok (.arraylength, 1) := by decide +kernel
theorem d6_7 : decode jdk_65_method_132_code 7 = .ok (.if_icmp .eq 10, 3) := by decide +kernel
theorem d6_10 : decode jdk_65_method_132_code 10 = .ok (.aload_n 0, 1) := by decide +kernel
theorem d6_11 : decode jdk_65_method_132_code 11 = .ok (.iload_n 1, 1) := by decide +kernel
theorem d6_12 : decode jdk_65_method_132_code 12 = .ok (.iload_n 2, 1) := by decide +kernel
theorem d6_13 : decode jdk_65_method_132_code 13 = .ok (.invokestatic 339, 3) := by decide +kernel
theorem d6_16 : decode jdk_65_method_132_code 16 = .ok (.areturn, 1) := by decide +kernel
theorem d6_17 : decode jdk_65_method_132_code 17 = .ok (.aload_n 0, 1) := by decide +kernel
theorem d6_18 : decode jdk_65_method_132_code 18 = .ok (.invokevirtual 310, 3) := by decide +kernel
theorem d6_21 : decode jdk_65_method_132_code 21 = .ok (.checkcast 311, 3) := by decide +kernel
theorem d6_24 : decode jdk_65_method_132_code 24 = .ok (.areturn, 1) := by decide +kernel
theorem pn_6 : plainName "java/util/Arrays" = true := by first | (simp [plainName, overriddenIn]; done) | decide +kernel
theorem ef_6 (m : MethodId) (x0 : Addr) (x1 : Int32) (x2 : Int32) : entryFrame m #[(.ref x0), (.int x1), (.int x2)] 3 = mkF m 0 #[.val (.ref x0), .val (.int x1), .val (.int x2)] [] := by first | (simp [entryFrame, mkF, argsToLocals, Value.category]; done) | rfl
def Q6 (Z : State) (a6_0 : Addr) (p6_1 : Int32) (p6_2 : Int32) (ka : ClassId) (zz : Int32) (r6 : Addr) (h0 : Heap) (n0 : Nat) (v : Option Value) (h : Heap) (L : List Loc) : Prop := v = some (.ref r6) ∧ Fr n0 L ∧ Keep h0 h []
set_option maxRecDepth 65536 in
set_option maxHeartbeats 40000000 in
theorem rm6 (l : Launch) (Z : State) (a0 : Array Value) (hw : ∀ d ∈ tables_1, d.before a0 Z = true) (ws : List Jvm.Cond) (a6_0 : Addr) (p6_1 : Int32) (p6_2 : Int32) (ka : ClassId) (zz : Int32) (r6 : Addr) (h0 : Heap) (n0 : Nat) (Z0 : n0 ≤ h0.size) (VA : Arv Z h0 a6_0 ka .byte zz [] (.int (0 : Int32))) (EA : Exa Z h0 a6_0 "[B") (gr_r6 : r6 = h0.size) (hlo : 0 ≤ p6_1.toInt) (hlh : p6_1.toInt ≤ p6_2.toInt) (hhz : p6_2.toInt ≤ zz.toInt) (hz7 : zz.toInt ≤ 7) :
    MetFree l (⟨"java/util/Arrays", "copyOfRange", "([BII)[B"⟩ : MethodName) (head1 (Jvm.Cond.code (⟨"java/util/Arrays", "copyOfRange", "([BII)[B"⟩ : MethodName) jdk_65_method_132_code 3 (some (.array .byte)) :: ws) ({ frames := 2, cells := 1, slots := 7, locals := 34 } : Room)) (fun a U => a = #[(.ref a6_0), (.int p6_1), (.int p6_2)] ∧ Z.Warmed39 U.vm ∧ U.heap = h0) (fun _ _ _ _ _ => True) (fun _ U o U' => ∃ v L, o = .returned v ∧ Q6 Z a6_0 p6_1 p6_2 ka zz r6 h0 n0 v U'.heap L ∧ FrameEnd U o U' L ({ frames := 2, cells := 1, slots := 7, locals := 34 } : Room).cells ({ frames := 2, cells := 1, slots := 7, locals := 34 } : Room).slots) := by
  refine MetFree.of_bodySF (plainFor_of_name pn_6) hisR ?_
  intro p e s m args below meth c s₁ Bd hml0 hP hK
  obtain ⟨rfl, hZ, hh⟩ := hP
  have hVV : ∀ (i : Nat) (d : Jvm.Cond), tables_1[i]? = some d → d.before a0 Z = true := fun i d h => hw d (List.mem_of_getElem? h)
  have hx := Bd.exec
  have hby := Bd.bytes
  have hml : c.maxLocals = 3 := hml0
  have hown : s.vm.findClass "java/util/Arrays" = some m.cls := findClass_of_methodNamed Bd.named
  have hnm := (name_of_methodNamed Bd.named Bd.method).1
  have X0 : Stand p l e ({ frames := 2, cells := 1, slots := 7, locals := 34 } : Room) s m #[(.ref a6_0), (.int p6_1), (.int p6_2)] below meth c s₁ [] 0 0 := Stand.of_body Bd
  have e0 : s₁.heap = h0 := by rw [← hh, Bd.state]; rfl
  have N0 := Fr.nil n0
  have pre0 : ∀ t, Steps p.tables e below (s₁.setTop (mkF m 0 #[.val (.ref a6_0), .val (.int p6_1), .val (.int p6_2)] [])) t → Steps p.tables e below (s₁.setTop (entryFrame m #[(.ref a6_0), (.int p6_1), (.int p6_2)] 3)) t := fun t k => castTop (ef_6 m a6_0 p6_1 p6_2) k
  by_cases hc1 : p6_1 = (0 : Int32)
  · obtain ⟨cl2, Ar2, q2, S2, N2, H2, G2⟩ := id VA
    by_cases hc3 : p6_2 = zz
    · obtain ⟨T4, h4, X4, e4, E4, -, B4, st4⟩ := cloneH X0 hx hZ hown (hVV 33 _ rfl) (hVV 34 _ rfl) (hVV 38 _ rfl) (hVV 36 _ rfl) (hVV 37 _ rfl) (hVV 39 _ rfl) e0 (Arv.arh VA) EA (g := (mkF m 18 #[.val (.ref a6_0), .val (.int p6_1), .val (.int p6_2)] [(.ref a6_0)])) rfl (by rw [hml]; rfl) (rest := []) rfl (hb hby d6_18) (by decide) (W := 0) (cap := 7) (by show 2 * 0 + _ ≤ _; exact Nat.le_of_eq rfl) (by decide) (own_cap _ (by omega) hz7) (by decide) (by decide)
      have g4 := gr_r6
      rw [← g4] at B4 st4
      have gz4 : n0 ≤ r6 := Nat.le_trans Z0 (Nat.le_of_eq g4.symm)
      have sz4 : h0.size ≤ r6 := Nat.le_trans (Keep.refl h0 []).1 (Nat.le_of_eq g4.symm)
      have ne5 : a6_0 ≠ r6 := Nat.ne_of_lt (Nat.lt_of_lt_of_le VA.lt (Nat.le_of_eq g4.symm))
      have pre6 : ∀ t, Steps p.tables e below (T4.setTop (mkF m 21 #[.val (.ref a6_0), .val (.int p6_1), .val (.int p6_2)] [(.ref r6)])) t → Steps p.tables e below (s₁.setTop (entryFrame m #[(.ref a6_0), (.int p6_1), (.int p6_2)] 3)) t := fun t k => pre0 t (by
        show Steps p.tables e below (s₁.setTop (mkF m 0 #[.val (.ref a6_0), .val (.int p6_1), .val (.int p6_2)] [])) _
        refine XS.iloadN X0.here hx rfl (hb hby d6_0) rfl ?_
        show Steps p.tables e below (s₁.setTop (mkF m 1 #[.val (.ref a6_0), .val (.int p6_1), .val (.int p6_2)] [(.int p6_1)])) _
        refine XS.ifNo X0.here hx rfl (hb hby d6_1) rfl ((if0 _ _).trans (teq hc1).2) ?_
        show Steps p.tables e below (s₁.setTop (mkF m 4 #[.val (.ref a6_0), .val (.int p6_1), .val (.int p6_2)] [])) _
        refine XS.iloadN X0.here hx rfl (hb hby d6_4) rfl ?_
        show Steps p.tables e below (s₁.setTop (mkF m 5 #[.val (.ref a6_0), .val (.int p6_1), .val (.int p6_2)] [(.int p6_2)])) _
        refine XS.aloadN X0.here hx rfl (hb hby d6_5) rfl rfl ?_
        show Steps p.tables e below (s₁.setTop (mkF m 6 #[.val (.ref a6_0), .val (.int p6_1), .val (.int p6_2)] [(.ref a6_0), (.int p6_2)])) _
        refine X0.arraylength hx (by rw [e0]; exact Ar2.1) (State.isArrayOf_alike hZ.alike Ar2.2.1) (g := (mkF m 6 #[.val (.ref a6_0), .val (.int p6_1), .val (.int p6_2)] [(.ref a6_0), (.int p6_2)])) rfl rfl (hb hby d6_6) _ ?_
        rw [len_of S2 N2]
        show Steps p.tables e below (s₁.setTop (mkF m 7 #[.val (.ref a6_0), .val (.int p6_1), .val (.int p6_2)] [(.int zz), (.int p6_2)])) _
        refine XS.icmpYes X0.here hx rfl (pc0 := 7) (pc' := 17) rfl (hb hby d6_7) rfl (teq hc3).1 (by decide) (by decide) ?_
        show Steps p.tables e below (s₁.setTop (mkF m 17 #[.val (.ref a6_0), .val (.int p6_1), .val (.int p6_2)] [])) _
        refine XS.aloadN X0.here hx rfl (hb hby d6_17) rfl rfl ?_
        show Steps p.tables e below (s₁.setTop (mkF m 18 #[.val (.ref a6_0), .val (.int p6_1), .val (.int p6_2)] [(.ref a6_0)])) _
        refine st4 _ ?_
        exact k)
      have f7 := VA.ext E4
      have f8 := EA.ext E4
      have z9 := Nat.le_trans Z0 E4.1
      have k10 := (Keep.refl h0 []).ext E4
      obtain ⟨T11, X11, e11, st11⟩ := castY X4 hx hZ hown (hVV 40 _ rfl) e4 (Ins.self B4) (g := (mkF m 21 #[.val (.ref a6_0), .val (.int p6_1), .val (.int p6_2)] [(.ref r6)])) rfl rfl (hb hby d6_21)
      have pre12 : ∀ t, Steps p.tables e below (T11.setTop (mkF m 24 #[.val (.ref a6_0), .val (.int p6_1), .val (.int p6_2)] [(.ref r6)])) t → Steps p.tables e below (s₁.setTop (entryFrame m #[(.ref a6_0), (.int p6_1), (.int p6_2)] 3)) t := fun t k => pre6 t (by
        show Steps p.tables e below (T4.setTop (mkF m 21 #[.val (.ref a6_0), .val (.int p6_1), .val (.int p6_2)] [(.ref r6)])) _
        refine st11 _ ?_
        exact k)
      obtain ⟨fs, hr, hrun, hended, hW, hsame⟩ := X11.leave (v := some (.ref r6)) (fun h => by rw [Bd.returns] at h; cases h)
      refine ⟨_, _, pre12 _ ?_, hrun, hended, _, _, rfl, ?_, ⟨_, rfl⟩, hW, hsame.mono (by decide) (by decide)⟩
      · show Steps p.tables e below (T11.setTop (mkF m 24 #[.val (.ref a6_0), .val (.int p6_1), .val (.int p6_2)] [(.ref r6)])) _
        jvm_step X11.here [X11.here.top, hx, (hb hby d6_24), X11.method', Bd.returns, Value.isRef, FieldType.isReference]
        first | (intro acts; rw [hr _ acts rfl rfl rfl]) | rw [hr _ _ rfl rfl rfl]
        exact Steps.refl _
      · show Q6 Z a6_0 p6_1 p6_2 ka zz r6 h0 n0 _ T11.heap _
        rw [e11]
        exact ⟨rfl, N0, k10⟩
    · have g14 := gr_r6
      have gz14 : n0 ≤ r6 := Nat.le_trans Z0 (Nat.le_of_eq g14.symm)
      have sz14 : h0.size ≤ r6 := Nat.le_trans (Keep.refl h0 []).1 (Nat.le_of_eq g14.symm)
      have ne15 : a6_0 ≠ r6 := Nat.ne_of_lt (Nat.lt_of_lt_of_le VA.lt (Nat.le_of_eq g14.symm))
      have hq16 : 0 ≤ p6_1.toInt := by
        exact hlo
      have hq17 : p6_1.toInt ≤ p6_2.toInt := by
        exact hlh
      have hq18 : p6_2.toInt ≤ zz.toInt := by
        exact hhz
      have hq19 : zz.toInt ≤ 7 := by
        exact hz7
      obtain ⟨_, _, ⟨T13, L13, k13, n13⟩, -, X13, ⟨Lc13, hQ13, l13, y13, z13⟩, st13⟩ := Jvm.LawKit.callS X0 hx (y := (⟨"java/util/Arrays", "copyOfRangeByte", "([BII)[B"⟩ : MethodName)) hown (mvT hZ (hVV 44 _ rfl)) (mvT hZ (hVV 45 _ rfl)) (mvT hZ (hVV 31 _ rfl)) (mvT hZ (hVV 46 _ rfl)) (by decide) (backOf (W := 0) (rm7 l Z a0 hw [] a6_0 p6_1 p6_2 ka zz r6 h0 n0 Z0 VA EA g14 hq16 hq17 hq18 hq19) hZ (hVV 46 _ rfl) (hVV 31 _ rfl) (by decide) (by decide)) (g := (mkF m 13 #[.val (.ref a6_0), .val (.int p6_1), .val (.int p6_2)] [(.int p6_2), (.int p6_1), (.ref a6_0)])) rfl (by rw [hml]; rfl) (argsL := [(.ref a6_0), (.int p6_1), (.int p6_2)]) (rest := []) (lenOf pd_2 rfl) rfl (by show 2 * 0 + _ ≤ _; exact Nat.le_of_eq rfl) (hb hby d6_13) (fun _ _ => ⟨rfl, e0, (by decide : 0 + 1 ≤ _), (by decide : 0 + 7 ≤ _)⟩)
      dsimp only [Pt.U, Pt.locs, Pt.cells, Pt.slots] at X13 l13 y13 z13 st13 hQ13
      subst l13 y13 z13
      obtain ⟨rfl, N13q, K13⟩ := hQ13
      have N20 := Fr.app N0 N13q
      have pre21 : ∀ t, Steps p.tables e below (T13.setTop (mkF m 16 #[.val (.ref a6_0), .val (.int p6_1), .val (.int p6_2)] [(.ref r6)])) t → Steps p.tables e below (s₁.setTop (entryFrame m #[(.ref a6_0), (.int p6_1), (.int p6_2)] 3)) t := fun t k => pre0 t (by
        show Steps p.tables e below (s₁.setTop (mkF m 0 #[.val (.ref a6_0), .val (.int p6_1), .val (.int p6_2)] [])) _
        refine XS.iloadN X0.here hx rfl (hb hby d6_0) rfl ?_
        show Steps p.tables e below (s₁.setTop (mkF m 1 #[.val (.ref a6_0), .val (.int p6_1), .val (.int p6_2)] [(.int p6_1)])) _
        refine XS.ifNo X0.here hx rfl (hb hby d6_1) rfl ((if0 _ _).trans (teq hc1).2) ?_
        show Steps p.tables e below (s₁.setTop (mkF m 4 #[.val (.ref a6_0), .val (.int p6_1), .val (.int p6_2)] [])) _
        refine XS.iloadN X0.here hx rfl (hb hby d6_4) rfl ?_
        show Steps p.tables e below (s₁.setTop (mkF m 5 #[.val (.ref a6_0), .val (.int p6_1), .val (.int p6_2)] [(.int p6_2)])) _
        refine XS.aloadN X0.here hx rfl (hb hby d6_5) rfl rfl ?_
        show Steps p.tables e below (s₁.setTop (mkF m 6 #[.val (.ref a6_0), .val (.int p6_1), .val (.int p6_2)] [(.ref a6_0), (.int p6_2)])) _
        refine X0.arraylength hx (by rw [e0]; exact Ar2.1) (State.isArrayOf_alike hZ.alike Ar2.2.1) (g := (mkF m 6 #[.val (.ref a6_0), .val (.int p6_1), .val (.int p6_2)] [(.ref a6_0), (.int p6_2)])) rfl rfl (hb hby d6_6) _ ?_
        rw [len_of S2 N2]
        show Steps p.tables e below (s₁.setTop (mkF m 7 #[.val (.ref a6_0), .val (.int p6_1), .val (.int p6_2)] [(.int zz), (.int p6_2)])) _
        refine XS.icmpNo X0.here hx rfl (hb hby d6_7) rfl (feq hc3).1 ?_
        show Steps p.tables e below (s₁.setTop (mkF m 10 #[.val (.ref a6_0), .val (.int p6_1), .val (.int p6_2)] [])) _
        refine XS.aloadN X0.here hx rfl (hb hby d6_10) rfl rfl ?_
        show Steps p.tables e below (s₁.setTop (mkF m 11 #[.val (.ref a6_0), .val (.int p6_1), .val (.int p6_2)] [(.ref a6_0)])) _
        refine XS.iloadN X0.here hx rfl (hb hby d6_11) rfl ?_
        show Steps p.tables e below (s₁.setTop (mkF m 12 #[.val (.ref a6_0), .val (.int p6_1), .val (.int p6_2)] [(.int p6_1), (.ref a6_0)])) _
        refine XS.iloadN X0.here hx rfl (hb hby d6_12) rfl ?_
        show Steps p.tables e below (s₁.setTop (mkF m 13 #[.val (.ref a6_0), .val (.int p6_1), .val (.int p6_2)] [(.int p6_2), (.int p6_1), (.ref a6_0)])) _
        refine st13 _ ?_
        exact k)
      have f22 := VA.keep K13 nin0
      have f23 := EA.keep K13
      have z24 := Nat.le_trans Z0 K13.1
      have k25 := (Keep.refl h0 []).trans K13 all0
      obtain ⟨fs, hr, hrun, hended, hW, hsame⟩ := X13.leave (v := some (.ref r6)) (fun h => by rw [Bd.returns] at h; cases h)
      refine ⟨_, _, pre21 _ ?_, hrun, hended, _, _, rfl, ?_, ⟨_, rfl⟩, hW, hsame.mono (by decide) (by decide)⟩
      · show Steps p.tables e below (T13.setTop (mkF m 16 #[.val (.ref a6_0), .val (.int p6_1), .val (.int p6_2)] [(.ref r6)])) _
        jvm_step X13.here [X13.here.top, hx, (hb hby d6_16), X13.method', Bd.returns, Value.isRef, FieldType.isReference]
        first | (intro acts; rw [hr _ acts rfl rfl rfl]) | rw [hr _ _ rfl rfl rfl]
        exact Steps.refl _
      · show Q6 Z a6_0 p6_1 p6_2 ka zz r6 h0 n0 _ T13.heap _
        exact ⟨rfl, N20, k25⟩
  · have g27 := gr_r6
    have gz27 : n0 ≤ r6 := Nat.le_trans Z0 (Nat.le_of_eq g27.symm)
    have sz27 : h0.size ≤ r6 := Nat.le_trans (Keep.refl h0 []).1 (Nat.le_of_eq g27.symm)
    have ne28 : a6_0 ≠ r6 := Nat.ne_of_lt (Nat.lt_of_lt_of_le VA.lt (Nat.le_of_eq g27.symm))
    have hq29 : 0 ≤ p6_1.toInt := by
      exact hlo
    have hq30 : p6_1.toInt ≤ p6_2.toInt := by
      exact hlh
    have hq31 : p6_2.toInt ≤ zz.toInt := by
      exact hhz
    have hq32 : zz.toInt ≤ 7 := by
      exact hz7
    obtain ⟨_, _, ⟨T26, L26, k26, n26⟩, -, X26, ⟨Lc26, hQ26, l26, y26, z26⟩, st26⟩ := Jvm.LawKit.callS X0 hx (y := (⟨"java/util/Arrays", "copyOfRangeByte", "([BII)[B"⟩ : MethodName)) hown (mvT hZ (hVV 44 _ rfl)) (mvT hZ (hVV 45 _ rfl)) (mvT hZ (hVV 31 _ rfl)) (mvT hZ (hVV 46 _ rfl)) (by decide) (backOf (W := 0) (rm7 l Z a0 hw [] a6_0 p6_1 p6_2 ka zz r6 h0 n0 Z0 VA EA g27 hq29 hq30 hq31 hq32) hZ (hVV 46 _ rfl) (hVV 31 _ rfl) (by decide) (by decide)) (g := (mkF m 13 #[.val (.ref a6_0), .val (.int p6_1), .val (.int p6_2)] [(.int p6_2), (.int p6_1), (.ref a6_0)])) rfl (by rw [hml]; rfl) (argsL := [(.ref a6_0), (.int p6_1), (.int p6_2)]) (rest := []) (lenOf pd_2 rfl) rfl (by show 2 * 0 + _ ≤ _; exact Nat.le_of_eq rfl) (hb hby d6_13) (fun _ _ => ⟨rfl, e0, (by decide : 0 + 1 ≤ _), (by decide : 0 + 7 ≤ _)⟩)
    dsimp only [Pt.U, Pt.locs, Pt.cells, Pt.slots] at X26 l26 y26 z26 st26 hQ26
    subst l26 y26 z26
    obtain ⟨rfl, N26q, K26⟩ := hQ26
    have N33 := Fr.app N0 N26q
    have pre34 : ∀ t, Steps p.tables e below (T26.setTop (mkF m 16 #[.val (.ref a6_0), .val (.int p6_1), .val (.int p6_2)] [(.ref r6)])) t → Steps p.tables e below (s₁.setTop (entryFrame m #[(.ref a6_0), (.int p6_1), (.int p6_2)] 3)) t := fun t k => pre0 t (by
      show Steps p.tables e below (s₁.setTop (mkF m 0 #[.val (.ref a6_0), .val (.int p6_1), .val (.int p6_2)] [])) _
      refine XS.iloadN X0.here hx rfl (hb hby d6_0) rfl ?_
      show Steps p.tables e below (s₁.setTop (mkF m 1 #[.val (.ref a6_0), .val (.int p6_1), .val (.int p6_2)] [(.int p6_1)])) _
      refine XS.ifYes X0.here hx rfl (pc0 := 1) (pc' := 10) rfl (hb hby d6_1) rfl ((if0 _ _).trans (feq hc1).2) (by decide) (by decide) ?_
      show Steps p.tables e below (s₁.setTop (mkF m 10 #[.val (.ref a6_0), .val (.int p6_1), .val (.int p6_2)] [])) _
      refine XS.aloadN X0.here hx rfl (hb hby d6_10) rfl rfl ?_
      show Steps p.tables e below (s₁.setTop (mkF m 11 #[.val (.ref a6_0), .val (.int p6_1), .val (.int p6_2)] [(.ref a6_0)])) _
      refine XS.iloadN X0.here hx rfl (hb hby d6_11) rfl ?_
      show Steps p.tables e below (s₁.setTop (mkF m 12 #[.val (.ref a6_0), .val (.int p6_1), .val (.int p6_2)] [(.int p6_1), (.ref a6_0)])) _
      refine XS.iloadN X0.here hx rfl (hb hby d6_12) rfl ?_
      show Steps p.tables e below (s₁.setTop (mkF m 13 #[.val (.ref a6_0), .val (.int p6_1), .val (.int p6_2)] [(.int p6_2), (.int p6_1), (.ref a6_0)])) _
      refine st26 _ ?_
      exact k)
    have f35 := VA.keep K26 nin0
    have f36 := EA.keep K26
    have z37 := Nat.le_trans Z0 K26.1
    have k38 := (Keep.refl h0 []).trans K26 all0
    obtain ⟨fs, hr, hrun, hended, hW, hsame⟩ := X26.leave (v := some (.ref r6)) (fun h => by rw [Bd.returns] at h; cases h)
    refine ⟨_, _, pre34 _ ?_, hrun, hended, _, _, rfl, ?_, ⟨_, rfl⟩, hW, hsame.mono (by decide) (by decide)⟩
    · show Steps p.tables e below (T26.setTop (mkF m 16 #[.val (.ref a6_0), .val (.int p6_1), .val (.int p6_2)] [(.ref r6)])) _
      jvm_step X26.here [X26.here.top, hx, (hb hby d6_16), X26.method', Bd.returns, Value.isRef, FieldType.isReference]
      first | (intro acts; rw [hr _ acts rfl rfl rfl]) | rw [hr _ _ rfl rfl rfl]
      exact Steps.refl _
    · show Q6 Z a6_0 p6_1 p6_2 ka zz r6 h0 n0 _ T26.heap _
      exact ⟨rfl, N33, k38⟩
theorem d1_0 : decode prog_9_method_1_code 0 = .ok (.aload_n 0, 1) := by decide +kernel
theorem d1_1 : decode prog_9_method_1_code 1 = .ok (.invokespecial 1, 3) := by decide +kernel
theorem d1_4 : decode prog_9_method_1_code 4 = .ok (.iload_n 2, 1) := by decide +kernel
theorem d1_5 : decode prog_9_method_1_code 5 = .ok (.ifCond .lt 9, 3) := by decide +kernel
theorem d1_8 : decode prog_9_method_1_code 8 = .ok (.iload_n 2, 1) := by decide +kernel
theorem d1_9 : decode prog_9_method_1_code 9 = .ok (.aload_n 1, 1) := by decide +kernel
theorem d1_10 : decode prog_9_method_1_code 10 = .ok (.arraylength, 1) := by decide +kernel
theorem d1_11 : decode prog_9_method_1_code 11 = .ok (.if_icmp .le 19, 3) := by decide +kernel
theorem d1_30 : decode prog_9_method_1_code 30 = .ok (.aload_n 0, 1) := by decide +kernel
theorem d1_31 : decode prog_9_method_1_code 31 = .ok (.aload_n 1, 1) := by decide +kernel
theorem d1_32 : decode prog_9_method_1_code 32 = .ok (.putfield 16, 3) := by decide +kernel
theorem d1_35 : decode prog_9_method_1_code 35 = .ok (.aload_n 0, 1) := by decide +kernel
theorem d1_36 : decode prog_9_method_1_code 36 = .ok (.iload_n 2, 1) := by decide +kernel
theorem d1_37 : decode prog_9_method_1_code 37 = .ok (.putfield 22, 3) := by decide +kernel
theorem d1_40 : decode prog_9_method_1_code 40 = .ok (.return_, 1) := by decide +kernel
theorem pn_1 : plainName "com/example/libmosaic/libmosaic/encoding/ByteReader" = true := by first | (simp [plainName, overriddenIn]; done) | decide +kernel
theorem ef_1 (m : MethodId) (x0 : Addr) (x1 : Addr) (x2 : Int32) : entryFrame m #[(.ref x0), (.ref x1), (.int x2)] 3 = mkF m 0 #[.val (.ref x0), .val (.ref x1), .val (.int x2)] [] := by first | (simp [entryFrame, mkF, argsToLocals, Value.category]; done) | rfl
def Q1 (Z : State) (a1_0 : Addr) (a1_1 : Addr) (p1_2 : Int32) (ka : ClassId) (zz : Int32) (w1_bytes_a1_0 : Value) (w1_position_a1_0 : Int32) (w1_complement_a1_0 : Int32) (h0 : Heap) (n0 : Nat) (v : Option Value) (h : Heap) (L : List Loc) : Prop := v = none ∧ Fr n0 L ∧ Keep h0 h [a1_0] ∧ Exa Z h a1_0 "com/example/libmosaic/libmosaic/encoding/ByteReader" ∧ Fld Z h a1_0 "com/example/libmosaic/libmosaic/encoding/ByteReader" "complement" "I" (.int w1_complement_a1_0) ∧ Fld Z h a1_0 "com/example/libmosaic/libmosaic/encoding/ByteReader" "bytes" "[B" (.ref a1_1) ∧ Fld Z h a1_0 "com/example/libmosaic/libmosaic/encoding/ByteReader" "position" "I" (.int p1_2)
set_option maxRecDepth 65536 in
set_option maxHeartbeats 40000000 in
theorem rm1 (l : Launch) (Z : State) (a0 : Array Value) (hw : ∀ d ∈ tables_1, d.before a0 Z = true) (ws : List Jvm.Cond) (a1_0 : Addr) (a1_1 : Addr) (p1_2 : Int32) (ka : ClassId) (zz : Int32) (w1_bytes_a1_0 : Value) (w1_position_a1_0 : Int32) (w1_complement_a1_0 : Int32) (h0 : Heap) (n0 : Nat) (Z0 : n0 ≤ h0.size) (VA : Arv Z h0 a1_1 ka .byte zz [] (.int (0 : Int32))) (EA : Exa Z h0 a1_1 "[B") (ne_a1_1_a1_0 : a1_1 ≠ a1_0) (hp1_5 : ¬ (p1_2 < (0 : Int32))) (hp1_11 : ¬ (zz < p1_2)) (E_a1_0 : Exa Z h0 a1_0 "com/example/libmosaic/libmosaic/encoding/ByteReader") (F_bytes_a1_0 : Fld Z h0 a1_0 "com/example/libmosaic/libmosaic/encoding/ByteReader" "bytes" "[B" w1_bytes_a1_0) (F_position_a1_0 : Fld Z h0 a1_0 "com/example/libmosaic/libmosaic/encoding/ByteReader" "position" "I" (.int w1_position_a1_0)) (F_complement_a1_0 : Fld Z h0 a1_0 "com/example/libmosaic/libmosaic/encoding/ByteReader" "complement" "I" (.int w1_complement_a1_0)) (g_a1_0 : n0 ≤ a1_0) :
    MetFree l (⟨"com/example/libmosaic/libmosaic/encoding/ByteReader", "<init>", "([BI)V"⟩ : MethodName) (head1 (Jvm.Cond.code (⟨"com/example/libmosaic/libmosaic/encoding/ByteReader", "<init>", "([BI)V"⟩ : MethodName) prog_9_method_1_code 3 none :: ws) ({ frames := 1, cells := 0, slots := 0, locals := 12 } : Room)) (fun a U => a = #[(.ref a1_0), (.ref a1_1), (.int p1_2)] ∧ Z.Warmed39 U.vm ∧ U.heap = h0) (fun _ _ _ _ _ => True) (fun _ U o U' => ∃ v L, o = .returned v ∧ Q1 Z a1_0 a1_1 p1_2 ka zz w1_bytes_a1_0 w1_position_a1_0 w1_complement_a1_0 h0 n0 v U'.heap L ∧ FrameEnd U o U' L ({ frames := 1, cells := 0, slots := 0, locals := 12 } : Room).cells ({ frames := 1, cells := 0, slots := 0, locals := 12 } : Room).slots) := by
  refine MetFree.of_bodySF (plainFor_of_name pn_1) hisR ?_
  intro p e s m args below meth c s₁ Bd hml0 hP hK
  obtain ⟨rfl, hZ, hh⟩ := hP
  have hVV : ∀ (i : Nat) (d : Jvm.Cond), tables_1[i]? = some d → d.before a0 Z = true := fun i d h => hw d (List.mem_of_getElem? h)
  have hx := Bd.exec
  have hby := Bd.bytes
  have hml : c.maxLocals = 3 := hml0
  have hown : s.vm.findClass "com/example/libmosaic/libmosaic/encoding/ByteReader" = some m.cls := findClass_of_methodNamed Bd.named
  have hnm := (name_of_methodNamed Bd.named Bd.method).1
  have X0 : Stand p l e ({ frames := 1, cells := 0, slots := 0, locals := 12 } : Room) s m #[(.ref a1_0), (.ref a1_1), (.int p1_2)] below meth c s₁ [] 0 0 := Stand.of_body Bd
  have e0 : s₁.heap = h0 := by rw [← hh, Bd.state]; rfl
  have N0 := Fr.nil n0
  have pre0 : ∀ t, Steps p.tables e below (s₁.setTop (mkF m 0 #[.val (.ref a1_0), .val (.ref a1_1), .val (.int p1_2)] [])) t → Steps p.tables e below (s₁.setTop (entryFrame m #[(.ref a1_0), (.ref a1_1), (.int p1_2)] 3)) t := fun t k => castTop (ef_1 m a1_0 a1_1 p1_2) k
  obtain ⟨T1, X1, e1, st1⟩ := initO X0 hx hZ hown (hVV 8 _ rfl) (hVV 9 _ rfl) (hVV 10 _ rfl) e0 (g := (mkF m 1 #[.val (.ref a1_0), .val (.ref a1_1), .val (.int p1_2)] [(.ref a1_0)])) rfl (by rw [hml]; rfl) rfl (hb hby d1_1) (by decide) (W := 0) (by show 2 * 0 + _ ≤ _; exact Nat.le_of_eq rfl) (by decide)
  have pre2 : ∀ t, Steps p.tables e below (T1.setTop (mkF m 4 #[.val (.ref a1_0), .val (.ref a1_1), .val (.int p1_2)] [])) t → Steps p.tables e below (s₁.setTop (entryFrame m #[(.ref a1_0), (.ref a1_1), (.int p1_2)] 3)) t := fun t k => pre0 t (by
    show Steps p.tables e below (s₁.setTop (mkF m 0 #[.val (.ref a1_0), .val (.ref a1_1), .val (.int p1_2)] [])) _
    refine XS.aloadN X0.here hx rfl (hb hby d1_0) rfl rfl ?_
    show Steps p.tables e below (s₁.setTop (mkF m 1 #[.val (.ref a1_0), .val (.ref a1_1), .val (.int p1_2)] [(.ref a1_0)])) _
    refine st1 _ ?_
    exact k)
  obtain ⟨cl3, Ar3, q3, S3, N3, H3, G3⟩ := id VA
  obtain ⟨T4, h4, X4, e4, W4, st4⟩ := putF X1 hx hZ hown (host := "") (Or.inl (hVV 11 _ rfl)) Via.refl e1 F_bytes_a1_0 E_a1_0 (Or.inr ⟨(hVV 12 _ rfl), rfl, hnm⟩) (hVV 3 _ rfl) (ty := (.array .byte)) (by decide) rfl rfl (g := (mkF m 32 #[.val (.ref a1_0), .val (.ref a1_1), .val (.int p1_2)] [(.ref a1_1), (.ref a1_0)])) rfl rfl (hb hby d1_32)
  have pre5 : ∀ t, Steps p.tables e below (T4.setTop (mkF m 35 #[.val (.ref a1_0), .val (.ref a1_1), .val (.int p1_2)] [])) t → Steps p.tables e below (s₁.setTop (entryFrame m #[(.ref a1_0), (.ref a1_1), (.int p1_2)] 3)) t := fun t k => pre2 t (by
    show Steps p.tables e below (T1.setTop (mkF m 4 #[.val (.ref a1_0), .val (.ref a1_1), .val (.int p1_2)] [])) _
    refine XS.iloadN X1.here hx rfl (hb hby d1_4) rfl ?_
    show Steps p.tables e below (T1.setTop (mkF m 5 #[.val (.ref a1_0), .val (.ref a1_1), .val (.int p1_2)] [(.int p1_2)])) _
    refine XS.ifNo X1.here hx rfl (hb hby d1_5) rfl ((if0 _ _).trans (flt hp1_5).1) ?_
    show Steps p.tables e below (T1.setTop (mkF m 8 #[.val (.ref a1_0), .val (.ref a1_1), .val (.int p1_2)] [])) _
    refine XS.iloadN X1.here hx rfl (hb hby d1_8) rfl ?_
    show Steps p.tables e below (T1.setTop (mkF m 9 #[.val (.ref a1_0), .val (.ref a1_1), .val (.int p1_2)] [(.int p1_2)])) _
    refine XS.aloadN X1.here hx rfl (hb hby d1_9) rfl rfl ?_
    show Steps p.tables e below (T1.setTop (mkF m 10 #[.val (.ref a1_0), .val (.ref a1_1), .val (.int p1_2)] [(.ref a1_1), (.int p1_2)])) _
    refine X1.arraylength hx (by rw [e1]; exact Ar3.1) (State.isArrayOf_alike hZ.alike Ar3.2.1) (g := (mkF m 10 #[.val (.ref a1_0), .val (.ref a1_1), .val (.int p1_2)] [(.ref a1_1), (.int p1_2)])) rfl rfl (hb hby d1_10) _ ?_
    rw [len_of S3 N3]
    show Steps p.tables e below (T1.setTop (mkF m 11 #[.val (.ref a1_0), .val (.ref a1_1), .val (.int p1_2)] [(.int zz), (.int p1_2)])) _
    refine XS.icmpYes X1.here hx rfl (pc0 := 11) (pc' := 30) rfl (hb hby d1_11) rfl (flt hp1_11).2.2.2 (by decide) (by decide) ?_
    show Steps p.tables e below (T1.setTop (mkF m 30 #[.val (.ref a1_0), .val (.ref a1_1), .val (.int p1_2)] [])) _
    refine XS.aloadN X1.here hx rfl (hb hby d1_30) rfl rfl ?_
    show Steps p.tables e below (T1.setTop (mkF m 31 #[.val (.ref a1_0), .val (.ref a1_1), .val (.int p1_2)] [(.ref a1_0)])) _
    refine XS.aloadN X1.here hx rfl (hb hby d1_31) rfl rfl ?_
    show Steps p.tables e below (T1.setTop (mkF m 32 #[.val (.ref a1_0), .val (.ref a1_1), .val (.int p1_2)] [(.ref a1_1), (.ref a1_0)])) _
    refine st4 _ ?_
    exact k)
  have f6 := VA.other W4 ne_a1_1_a1_0
  have f7 := EA.wr W4
  have f8 := E_a1_0.wr W4
  have f9 := F_position_a1_0.other W4 (Or.inr (slot_ne (Or.inl (hVV 14 _ rfl)) (Or.inr (hVV 12 _ rfl)) (by decide) (t := .int) (t' := (.array .byte)) (by decide) (by decide)))
  have f10 := F_complement_a1_0.other W4 (Or.inr (slot_ne (Or.inl (hVV 43 _ rfl)) (Or.inr (hVV 12 _ rfl)) (by decide) (t := .int) (t' := (.array .byte)) (by decide) (by decide)))
  have z11 := Nat.le_trans Z0 (Keep.of_wr W4).1
  have k12 := (Keep.refl h0 [a1_0]).wr W4 (Or.inl (List.mem_of_getElem? (i := 0) rfl))
  have f13 := F_bytes_a1_0.same W4
  have N14 := Fr.snoc X4 N0 g_a1_0
  obtain ⟨T15, h15, X15, e15, W15, st15⟩ := putF X4 hx hZ hown (host := "") (Or.inl (hVV 13 _ rfl)) Via.refl e4 f9 f8 (Or.inl (hVV 14 _ rfl)) (hVV 3 _ rfl) (ty := .int) (by decide) rfl rfl (g := (mkF m 37 #[.val (.ref a1_0), .val (.ref a1_1), .val (.int p1_2)] [(.int p1_2), (.ref a1_0)])) rfl rfl (hb hby d1_37)
  have pre16 : ∀ t, Steps p.tables e below (T15.setTop (mkF m 40 #[.val (.ref a1_0), .val (.ref a1_1), .val (.int p1_2)] [])) t → Steps p.tables e below (s₁.setTop (entryFrame m #[(.ref a1_0), (.ref a1_1), (.int p1_2)] 3)) t := fun t k => pre5 t (by
    show Steps p.tables e below (T4.setTop (mkF m 35 #[.val (.ref a1_0), .val (.ref a1_1), .val (.int p1_2)] [])) _
    refine XS.aloadN X4.here hx rfl (hb hby d1_35) rfl rfl ?_
    show Steps p.tables e below (T4.setTop (mkF m 36 #[.val (.ref a1_0), .val (.ref a1_1), .val (.int p1_2)] [(.ref a1_0)])) _
    refine XS.iloadN X4.here hx rfl (hb hby d1_36) rfl ?_
    show Steps p.tables e below (T4.setTop (mkF m 37 #[.val (.ref a1_0), .val (.ref a1_1), .val (.int p1_2)] [(.int p1_2), (.ref a1_0)])) _
    refine st15 _ ?_
    exact k)
  have f17 := f6.other W15 ne_a1_1_a1_0
  have f18 := f7.wr W15
  have f19 := f8.wr W15
  have f20 := f10.other W15 (Or.inr (slot_ne (Or.inl (hVV 43 _ rfl)) (Or.inl (hVV 14 _ rfl)) (by decide) (t := .int) (t' := .int) (by decide) (by decide)))
  have f21 := f13.other W15 (Or.inr (slot_ne (Or.inr (hVV 12 _ rfl)) (Or.inl (hVV 14 _ rfl)) (by decide) (t := (.array .byte)) (t' := .int) (by decide) (by decide)))
  have z22 := Nat.le_trans z11 (Keep.of_wr W15).1
  have k23 := k12.wr W15 (Or.inl (List.mem_of_getElem? (i := 0) rfl))
  have f24 := f9.same W15
  have N25 := Fr.snoc X15 N14 g_a1_0
  obtain ⟨fs, hr, hrun, hended, hW, hsame⟩ := X15.leave (v := none) (fun _ => rfl)
  refine ⟨_, _, pre16 _ ?_, hrun, hended, _, _, rfl, ?_, ⟨_, rfl⟩, hW, hsame.mono (by decide) (by decide)⟩
  · show Steps p.tables e below (T15.setTop (mkF m 40 #[.val (.ref a1_0), .val (.ref a1_1), .val (.int p1_2)] [])) _
    exact X15.returnOut hx Bd.returns (hb hby d1_40) hr
  · show Q1 Z a1_0 a1_1 p1_2 ka zz w1_bytes_a1_0 w1_position_a1_0 w1_complement_a1_0 h0 n0 _ T15.heap _
    rw [e15]
    exact ⟨rfl, N25, k23, f19, f20, f21, f24⟩
theorem d3_0 : decode prog_9_method_9_code 0 = .ok (.aload_n 0, 1) := by decide +kernel
theorem d3_1 : decode prog_9_method_9_code 1 = .ok (.getfield 22, 3) := by decide +kernel
theorem d3_4 : decode prog_9_method_9_code 4 = .ok (.aload_n 0, 1) := by decide +kernel
theorem d3_5 : decode prog_9_method_9_code 5 = .ok (.getfield 16, 3) := by decide +kernel
theorem d3_8 : decode prog_9_method_9_code 8 = .ok (.arraylength, 1) := by decide +kernel
theorem d3_9 : decode prog_9_method_9_code 9 = .ok (.if_icmp .ne 7, 3) := by decide +kernel
theorem d3_12 : decode prog_9_method_9_code 12 = .ok (.iconst 1, 1) := by decide +kernel
theorem d3_13 : decode prog_9_method_9_code 13 = .ok (.goto 4, 3) := by decide +kernel
theorem d3_16 : decode prog_9_method_9_code 16 = .ok (.iconst 0, 1) := by decide +kernel
theorem d3_17 : decode prog_9_method_9_code 17 = .ok (.ireturn, 1) := by decide +kernel
theorem pn_3 : plainName "com/example/libmosaic/libmosaic/encoding/ByteReader" = true := by first | (simp [plainName, overriddenIn]; done) | decide +kernel
theorem ef_3 (m : MethodId) (x0 : Addr) : entryFrame m #[(.ref x0)] 1 = mkF m 0 #[.val (.ref x0)] [] := by first | (simp [entryFrame, mkF, argsToLocals, Value.category]; done) | rfl
def Q3 (Z : State) (a3_0 : Addr) (ar : Addr) (pp : Int32) (ka : ClassId) (zz : Int32) (h0 : Heap) (n0 : Nat) (v : Option Value) (h : Heap) (L : List Loc) : Prop := v = some (.int (bI (pp = zz))) ∧ Fr n0 L ∧ h = h0
set_option maxRecDepth 65536 in
set_option maxHeartbeats 40000000 in
theorem rm3 (l : Launch) (Z : State) (a0 : Array Value) (hw : ∀ d ∈ tables_1, d.before a0 Z = true) (ws : List Jvm.Cond) (a3_0 : Addr) (ar : Addr) (pp : Int32) (ka : ClassId) (zz : Int32) (h0 : Heap) (n0 : Nat) (Z0 : n0 ≤ h0.size) (FB : Fld Z h0 a3_0 "com/example/libmosaic/libmosaic/encoding/ByteReader" "bytes" "[B" (.ref ar)) (FP : Fld Z h0 a3_0 "com/example/libmosaic/libmosaic/encoding/ByteReader" "position" "I" (.int pp)) (VA : Arv Z h0 ar ka .byte zz [] (.int (0 : Int32))) (EA : Exa Z h0 ar "[B") (ne_ar_a3_0 : ar ≠ a3_0) :
    MetFree l (⟨"com/example/libmosaic/libmosaic/encoding/ByteReader", "atEnd", "()Z"⟩ : MethodName) (head1 (Jvm.Cond.code (⟨"com/example/libmosaic/libmosaic/encoding/ByteReader", "atEnd", "()Z"⟩ : MethodName) prog_9_method_9_code 1 (some .boolean) :: ws) ({ frames := 0, cells := 0, slots := 0, locals := 0 } : Room)) (fun a U => a = #[(.ref a3_0)] ∧ Z.Warmed39 U.vm ∧ U.heap = h0) (fun _ _ _ _ _ => True) (fun _ U o U' => ∃ v L, o = .returned v ∧ Q3 Z a3_0 ar pp ka zz h0 n0 v U'.heap L ∧ FrameEnd U o U' L ({ frames := 0, cells := 0, slots := 0, locals := 0 } : Room).cells ({ frames := 0, cells := 0, slots := 0, locals := 0 } : Room).slots) := by
  refine MetFree.of_bodySF (plainFor_of_name pn_3) hisR ?_
  intro p e s m args below meth c s₁ Bd hml0 hP hK
  obtain ⟨rfl, hZ, hh⟩ := hP
  have hVV : ∀ (i : Nat) (d : Jvm.Cond), tables_1[i]? = some d → d.before a0 Z = true := fun i d h => hw d (List.mem_of_getElem? h)
  have hx := Bd.exec
  have hby := Bd.bytes
  have hml : c.maxLocals = 1 := hml0
  have hown : s.vm.findClass "com/example/libmosaic/libmosaic/encoding/ByteReader" = some m.cls := findClass_of_methodNamed Bd.named
  have hnm := (name_of_methodNamed Bd.named Bd.method).1
  have X0 : Stand p l e ({ frames := 0, cells := 0, slots := 0, locals := 0 } : Room) s m #[(.ref a3_0)] below meth c s₁ [] 0 0 := Stand.of_body Bd
  have e0 : s₁.heap = h0 := by rw [← hh, Bd.state]; rfl
  have N0 := Fr.nil n0
  have pre0 : ∀ t, Steps p.tables e below (s₁.setTop (mkF m 0 #[.val (.ref a3_0)] [])) t → Steps p.tables e below (s₁.setTop (entryFrame m #[(.ref a3_0)] 1)) t := fun t k => castTop (ef_3 m a3_0) k
  obtain ⟨T1, X1, e1, st1⟩ := getF X0 hx hZ hown (host := "") (Or.inl (hVV 13 _ rfl)) Via.refl e0 FP (g := (mkF m 1 #[.val (.ref a3_0)] [(.ref a3_0)])) rfl rfl (hb hby d3_1)
  have pre2 : ∀ t, Steps p.tables e below (T1.setTop (mkF m 4 #[.val (.ref a3_0)] [(.int pp)])) t → Steps p.tables e below (s₁.setTop (entryFrame m #[(.ref a3_0)] 1)) t := fun t k => pre0 t (by
    show Steps p.tables e below (s₁.setTop (mkF m 0 #[.val (.ref a3_0)] [])) _
    refine XS.aloadN X0.here hx rfl (hb hby d3_0) rfl rfl ?_
    show Steps p.tables e below (s₁.setTop (mkF m 1 #[.val (.ref a3_0)] [(.ref a3_0)])) _
    refine st1 _ ?_
    exact k)
  obtain ⟨T3, X3, e3, st3⟩ := getF X1 hx hZ hown (host := "") (Or.inl (hVV 11 _ rfl)) Via.refl e1 FB (g := (mkF m 5 #[.val (.ref a3_0)] [(.ref a3_0), (.int pp)])) rfl rfl (hb hby d3_5)
  have pre4 : ∀ t, Steps p.tables e below (T3.setTop (mkF m 8 #[.val (.ref a3_0)] [(.ref ar), (.int pp)])) t → Steps p.tables e below (s₁.setTop (entryFrame m #[(.ref a3_0)] 1)) t := fun t k => pre2 t (by
    show Steps p.tables e below (T1.setTop (mkF m 4 #[.val (.ref a3_0)] [(.int pp)])) _
    refine XS.aloadN X1.here hx rfl (hb hby d3_4) rfl rfl ?_
    show Steps p.tables e below (T1.setTop (mkF m 5 #[.val (.ref a3_0)] [(.ref a3_0), (.int pp)])) _
    refine st3 _ ?_
    exact k)
  obtain ⟨cl5, Ar5, q5, S5, N5, H5, G5⟩ := id VA
  by_cases hc6 : pp = zz
  · obtain ⟨fs, hr, hrun, hended, hW, hsame⟩ := X3.leave (v := some (.int (1 : Int32))) (fun h => by rw [Bd.returns] at h; cases h)
    refine ⟨_, _, pre4 _ ?_, hrun, hended, _, _, rfl, ?_, ⟨_, rfl⟩, hW, hsame.mono (by decide) (by decide)⟩
    · show Steps p.tables e below (T3.setTop (mkF m 8 #[.val (.ref a3_0)] [(.ref ar), (.int pp)])) _
      refine X3.arraylength hx (by rw [e3]; exact Ar5.1) (State.isArrayOf_alike hZ.alike Ar5.2.1) (g := (mkF m 8 #[.val (.ref a3_0)] [(.ref ar), (.int pp)])) rfl rfl (hb hby d3_8) _ ?_
      rw [len_of S5 N5]
      show Steps p.tables e below (T3.setTop (mkF m 9 #[.val (.ref a3_0)] [(.int zz), (.int pp)])) _
      refine XS.icmpNo X3.here hx rfl (hb hby d3_9) rfl (teq hc6).2 ?_
      show Steps p.tables e below (T3.setTop (mkF m 12 #[.val (.ref a3_0)] [])) _
      refine XS.iconst X3.here hx rfl (hb hby d3_12) ?_
      show Steps p.tables e below (T3.setTop (mkF m 13 #[.val (.ref a3_0)] [(.int (1 : Int32))])) _
      refine XS.goto X3.here hx rfl (pc0 := 13) (pc' := 17) rfl (hb hby d3_13) (by decide) (by decide) ?_
      show Steps p.tables e below (T3.setTop (mkF m 17 #[.val (.ref a3_0)] [(.int (1 : Int32))])) _
      exact retN X3 hx (t := .boolean) Bd.returns (by simp) (hb hby d3_17) hr
    · show Q3 Z a3_0 ar pp ka zz h0 n0 _ T3.heap _
      rw [e3]
      exact ⟨(congrArg (fun z => some (Value.int z)) ((bI_t hc6) : (bI (pp = zz)) = (1 : Int32)).symm), N0, rfl⟩
  · obtain ⟨fs, hr, hrun, hended, hW, hsame⟩ := X3.leave (v := some (.int (0 : Int32))) (fun h => by rw [Bd.returns] at h; cases h)
    refine ⟨_, _, pre4 _ ?_, hrun, hended, _, _, rfl, ?_, ⟨_, rfl⟩, hW, hsame.mono (by decide) (by decide)⟩
    · show Steps p.tables e below (T3.setTop (mkF m 8 #[.val (.ref a3_0)] [(.ref ar), (.int pp)])) _
      refine X3.arraylength hx (by rw [e3]; exact Ar5.1) (State.isArrayOf_alike hZ.alike Ar5.2.1) (g := (mkF m 8 #[.val (.ref a3_0)] [(.ref ar), (.int pp)])) rfl rfl (hb hby d3_8) _ ?_
      rw [len_of S5 N5]
      show Steps p.tables e below (T3.setTop (mkF m 9 #[.val (.ref a3_0)] [(.int zz), (.int pp)])) _
      refine XS.icmpYes X3.here hx rfl (pc0 := 9) (pc' := 16) rfl (hb hby d3_9) rfl (feq hc6).2 (by decide) (by decide) ?_
      show Steps p.tables e below (T3.setTop (mkF m 16 #[.val (.ref a3_0)] [])) _
      refine XS.iconst X3.here hx rfl (hb hby d3_16) ?_
      show Steps p.tables e below (T3.setTop (mkF m 17 #[.val (.ref a3_0)] [(.int (0 : Int32))])) _
      exact retN X3 hx (t := .boolean) Bd.returns (by simp) (hb hby d3_17) hr
    · show Q3 Z a3_0 ar pp ka zz h0 n0 _ T3.heap _
      rw [e3]
      exact ⟨(congrArg (fun z => some (Value.int z)) ((bI_f hc6) : (bI (pp = zz)) = (0 : Int32)).symm), N0, rfl⟩
theorem d5_0 : decode prog_9_method_10_code 0 = .ok (.iload_n 1, 1) := by decide +kernel
theorem d5_1 : decode prog_9_method_10_code 1 = .ok (.ifCond .lt 17, 3) := by decide +kernel
theorem d5_4 : decode prog_9_method_10_code 4 = .ok (.aload_n 0, 1) := by decide +kernel
theorem d5_5 : decode prog_9_method_10_code 5 = .ok (.getfield 16, 3) := by decide +kernel
theorem d5_8 : decode prog_9_method_10_code 8 = .ok (.arraylength, 1) := by decide +kernel
theorem d5_9 : decode prog_9_method_10_code 9 = .ok (.aload_n 0, 1) := by decide +kernel
theorem d5_10 : decode prog_9_method_10_code 10 = .ok (.getfield 22, 3) := by decide +kernel
theorem d5_13 : decode prog_9_method_10_code 13 = .ok (.isub, 1) := by decide +kernel
theorem d5_14 : decode prog_9_method_10_code 14 = .ok (.iload_n 1, 1) := by decide +kernel
theorem d5_15 : decode prog_9_method_10_code 15 = .ok (.if_icmp .ge 48, 3) := by decide +kernel
theorem d5_63 : decode prog_9_method_10_code 63 = .ok (.return_, 1) := by decide +kernel
theorem pn_5 : plainName "com/example/libmosaic/libmosaic/encoding/ByteReader" = true := by first | (simp [plainName, overriddenIn]; done) | decide +kernel
theorem ef_5 (m : MethodId) (x0 : Addr) (x1 : Int32) : entryFrame m #[(.ref x0), (.int x1)] 2 = mkF m 0 #[.val (.ref x0), .val (.int x1)] [] := by first | (simp [entryFrame, mkF, argsToLocals, Value.category]; done) | rfl
def Q5 (Z : State) (a5_0 : Addr) (p5_1 : Int32) (ar : Addr) (pp : Int32) (ka : ClassId) (zz : Int32) (h0 : Heap) (n0 : Nat) (v : Option Value) (h : Heap) (L : List Loc) : Prop := v = none ∧ Fr n0 L ∧ h = h0
set_option maxRecDepth 65536 in
set_option maxHeartbeats 40000000 in
theorem rm5 (l : Launch) (Z : State) (a0 : Array Value) (hw : ∀ d ∈ tables_1, d.before a0 Z = true) (ws : List Jvm.Cond) (a5_0 : Addr) (p5_1 : Int32) (ar : Addr) (pp : Int32) (ka : ClassId) (zz : Int32) (h0 : Heap) (n0 : Nat) (Z0 : n0 ≤ h0.size) (FB : Fld Z h0 a5_0 "com/example/libmosaic/libmosaic/encoding/ByteReader" "bytes" "[B" (.ref ar)) (FP : Fld Z h0 a5_0 "com/example/libmosaic/libmosaic/encoding/ByteReader" "position" "I" (.int pp)) (VA : Arv Z h0 ar ka .byte zz [] (.int (0 : Int32))) (EA : Exa Z h0 ar "[B") (ne_ar_a5_0 : ar ≠ a5_0) (hp5_1 : ¬ (p5_1 < (0 : Int32))) (hp5_15 : ¬ ((zz - pp) < p5_1)) :
    MetFree l (⟨"com/example/libmosaic/libmosaic/encoding/ByteReader", "require", "(I)V"⟩ : MethodName) (head1 (Jvm.Cond.code (⟨"com/example/libmosaic/libmosaic/encoding/ByteReader", "require", "(I)V"⟩ : MethodName) prog_9_method_10_code 2 none :: ws) ({ frames := 0, cells := 0, slots := 0, locals := 0 } : Room)) (fun a U => a = #[(.ref a5_0), (.int p5_1)] ∧ Z.Warmed39 U.vm ∧ U.heap = h0) (fun _ _ _ _ _ => True) (fun _ U o U' => ∃ v L, o = .returned v ∧ Q5 Z a5_0 p5_1 ar pp ka zz h0 n0 v U'.heap L ∧ FrameEnd U o U' L ({ frames := 0, cells := 0, slots := 0, locals := 0 } : Room).cells ({ frames := 0, cells := 0, slots := 0, locals := 0 } : Room).slots) := by
  refine MetFree.of_bodySF (plainFor_of_name pn_5) hisR ?_
  intro p e s m args below meth c s₁ Bd hml0 hP hK
  obtain ⟨rfl, hZ, hh⟩ := hP
  have hVV : ∀ (i : Nat) (d : Jvm.Cond), tables_1[i]? = some d → d.before a0 Z = true := fun i d h => hw d (List.mem_of_getElem? h)
  have hx := Bd.exec
  have hby := Bd.bytes
  have hml : c.maxLocals = 2 := hml0
  have hown : s.vm.findClass "com/example/libmosaic/libmosaic/encoding/ByteReader" = some m.cls := findClass_of_methodNamed Bd.named
  have hnm := (name_of_methodNamed Bd.named Bd.method).1
  have X0 : Stand p l e ({ frames := 0, cells := 0, slots := 0, locals := 0 } : Room) s m #[(.ref a5_0), (.int p5_1)] below meth c s₁ [] 0 0 := Stand.of_body Bd
  have e0 : s₁.heap = h0 := by rw [← hh, Bd.state]; rfl
  have N0 := Fr.nil n0
  have pre0 : ∀ t, Steps p.tables e below (s₁.setTop (mkF m 0 #[.val (.ref a5_0), .val (.int p5_1)] [])) t → Steps p.tables e below (s₁.setTop (entryFrame m #[(.ref a5_0), (.int p5_1)] 2)) t := fun t k => castTop (ef_5 m a5_0 p5_1) k
  obtain ⟨T1, X1, e1, st1⟩ := getF X0 hx hZ hown (host := "") (Or.inl (hVV 11 _ rfl)) Via.refl e0 FB (g := (mkF m 5 #[.val (.ref a5_0), .val (.int p5_1)] [(.ref a5_0)])) rfl rfl (hb hby d5_5)
  have pre2 : ∀ t, Steps p.tables e below (T1.setTop (mkF m 8 #[.val (.ref a5_0), .val (.int p5_1)] [(.ref ar)])) t → Steps p.tables e below (s₁.setTop (entryFrame m #[(.ref a5_0), (.int p5_1)] 2)) t := fun t k => pre0 t (by
    show Steps p.tables e below (s₁.setTop (mkF m 0 #[.val (.ref a5_0), .val (.int p5_1)] [])) _
    refine XS.iloadN X0.here hx rfl (hb hby d5_0) rfl ?_
    show Steps p.tables e below (s₁.setTop (mkF m 1 #[.val (.ref a5_0), .val (.int p5_1)] [(.int p5_1)])) _
    refine XS.ifNo X0.here hx rfl (hb hby d5_1) rfl ((if0 _ _).trans (flt hp5_1).1) ?_
    show Steps p.tables e below (s₁.setTop (mkF m 4 #[.val (.ref a5_0), .val (.int p5_1)] [])) _
    refine XS.aloadN X0.here hx rfl (hb hby d5_4) rfl rfl ?_
    show Steps p.tables e below (s₁.setTop (mkF m 5 #[.val (.ref a5_0), .val (.int p5_1)] [(.ref a5_0)])) _
    refine st1 _ ?_
    exact k)
  obtain ⟨cl3, Ar3, q3, S3, N3, H3, G3⟩ := id VA
  obtain ⟨T4, X4, e4, st4⟩ := getF X1 hx hZ hown (host := "") (Or.inl (hVV 13 _ rfl)) Via.refl e1 FP (g := (mkF m 10 #[.val (.ref a5_0), .val (.int p5_1)] [(.ref a5_0), (.int zz)])) rfl rfl (hb hby d5_10)
  have pre5 : ∀ t, Steps p.tables e below (T4.setTop (mkF m 13 #[.val (.ref a5_0), .val (.int p5_1)] [(.int pp), (.int zz)])) t → Steps p.tables e below (s₁.setTop (entryFrame m #[(.ref a5_0), (.int p5_1)] 2)) t := fun t k => pre2 t (by
    show Steps p.tables e below (T1.setTop (mkF m 8 #[.val (.ref a5_0), .val (.int p5_1)] [(.ref ar)])) _
    refine X1.arraylength hx (by rw [e1]; exact Ar3.1) (State.isArrayOf_alike hZ.alike Ar3.2.1) (g := (mkF m 8 #[.val (.ref a5_0), .val (.int p5_1)] [(.ref ar)])) rfl rfl (hb hby d5_8) _ ?_
    rw [len_of S3 N3]
    show Steps p.tables e below (T1.setTop (mkF m 9 #[.val (.ref a5_0), .val (.int p5_1)] [(.int zz)])) _
    refine XS.aloadN X1.here hx rfl (hb hby d5_9) rfl rfl ?_
    show Steps p.tables e below (T1.setTop (mkF m 10 #[.val (.ref a5_0), .val (.int p5_1)] [(.ref a5_0), (.int zz)])) _
    refine st4 _ ?_
    exact k)
  obtain ⟨fs, hr, hrun, hended, hW, hsame⟩ := X4.leave (v := none) (fun _ => rfl)
  refine ⟨_, _, pre5 _ ?_, hrun, hended, _, _, rfl, ?_, ⟨_, rfl⟩, hW, hsame.mono (by decide) (by decide)⟩
  · show Steps p.tables e below (T4.setTop (mkF m 13 #[.val (.ref a5_0), .val (.int p5_1)] [(.int pp), (.int zz)])) _
    refine XS.isub X4.here hx rfl (hb hby d5_13) rfl ?_
    show Steps p.tables e below (T4.setTop (mkF m 14 #[.val (.ref a5_0), .val (.int p5_1)] [(.int (zz - pp))])) _
    refine XS.iloadN X4.here hx rfl (hb hby d5_14) rfl ?_
    show Steps p.tables e below (T4.setTop (mkF m 15 #[.val (.ref a5_0), .val (.int p5_1)] [(.int p5_1), (.int (zz - pp))])) _
    refine XS.icmpYes X4.here hx rfl (pc0 := 15) (pc' := 63) rfl (hb hby d5_15) rfl (flt hp5_15).2.1 (by decide) (by decide) ?_
    show Steps p.tables e below (T4.setTop (mkF m 63 #[.val (.ref a5_0), .val (.int p5_1)] [])) _
    exact X4.returnOut hx Bd.returns (hb hby d5_63) hr
  · show Q5 Z a5_0 p5_1 ar pp ka zz h0 n0 _ T4.heap _
    rw [e4]
    exact ⟨rfl, N0, rfl⟩
theorem pd_3 : parseMethodDescriptor "(I)V" = some ⟨[.int], none⟩ := by decide +kernel
theorem d4_0 : decode prog_9_method_3_code 0 = .ok (.aload_n 0, 1) := by decide +kernel
theorem d4_1 : decode prog_9_method_3_code 1 = .ok (.iload_n 1, 1) := by decide +kernel
theorem d4_2 : decode prog_9_method_3_code 2 = .ok (.invokevirtual 26, 3) := by decide +kernel
theorem d4_5 : decode prog_9_method_3_code 5 = .ok (.aload_n 0, 1) := by decide +kernel
theorem d4_6 : decode prog_9_method_3_code 6 = .ok (.getfield 16, 3) := by decide +kernel
theorem d4_9 : decode prog_9_method_3_code 9 = .ok (.aload_n 0, 1) := by decide +kernel
theorem d4_10 : decode prog_9_method_3_code 10 = .ok (.getfield 22, 3) := by decide +kernel
theorem d4_13 : decode prog_9_method_3_code 13 = .ok (.aload_n 0, 1) := by decide +kernel
theorem d4_14 : decode prog_9_method_3_code 14 = .ok (.getfield 22, 3) := by decide +kernel
theorem d4_17 : decode prog_9_method_3_code 17 = .ok (.iload_n 1, 1) := by decide +kernel
theorem d4_18 : decode prog_9_method_3_code 18 = .ok (.iadd, 1) := by decide +kernel
theorem d4_19 : decode prog_9_method_3_code 19 = .ok (.invokestatic 33, 3) := by decide +kernel
theorem d4_22 : decode prog_9_method_3_code 22 = .ok (.astore_n 2, 1) := by decide +kernel
theorem d4_23 : decode prog_9_method_3_code 23 = .ok (.aload_n 0, 1) := by decide +kernel
theorem d4_24 : decode prog_9_method_3_code 24 = .ok (.getfield 30, 3) := by decide +kernel
theorem d4_27 : decode prog_9_method_3_code 27 = .ok (.ifCond .eq 27, 3) := by decide +kernel
theorem d4_54 : decode prog_9_method_3_code 54 = .ok (.aload_n 0, 1) := by decide +kernel
theorem d4_55 : decode prog_9_method_3_code 55 = .ok (.dup, 1) := by decide +kernel
theorem d4_56 : decode prog_9_method_3_code 56 = .ok (.getfield 22, 3) := by decide +kernel
theorem d4_59 : decode prog_9_method_3_code 59 = .ok (.iload_n 1, 1) := by decide +kernel
theorem d4_60 : decode prog_9_method_3_code 60 = .ok (.iadd, 1) := by decide +kernel
theorem d4_61 : decode prog_9_method_3_code 61 = .ok (.putfield 22, 3) := by decide +kernel
theorem d4_64 : decode prog_9_method_3_code 64 = .ok (.aload_n 2, 1) := by decide +kernel
theorem d4_65 : decode prog_9_method_3_code 65 = .ok (.areturn, 1) := by decide +kernel
theorem pn_4 : plainName "com/example/libmosaic/libmosaic/encoding/ByteReader" = true := by first | (simp [plainName, overriddenIn]; done) | decide +kernel
theorem ef_4 (m : MethodId) (x0 : Addr) (x1 : Int32) : entryFrame m #[(.ref x0), (.int x1)] 4 = mkF m 0 #[.val (.ref x0), .val (.int x1), .unset, .unset] [] := by first | (simp [entryFrame, mkF, argsToLocals, Value.category]; done) | rfl
def Q4 (Z : State) (a4_0 : Addr) (p4_1 : Int32) (ar : Addr) (pp : Int32) (ka : ClassId) (zz : Int32) (r4 : Addr) (h0 : Heap) (n0 : Nat) (v : Option Value) (h : Heap) (L : List Loc) : Prop := v = some (.ref r4) ∧ Fr n0 L ∧ Keep h0 h [a4_0] ∧ Exa Z h a4_0 "com/example/libmosaic/libmosaic/encoding/ByteReader" ∧ Fld Z h a4_0 "com/example/libmosaic/libmosaic/encoding/ByteReader" "bytes" "[B" (.ref ar) ∧ Fld Z h a4_0 "com/example/libmosaic/libmosaic/encoding/ByteReader" "complement" "I" (.int (0 : Int32)) ∧ Fld Z h a4_0 "com/example/libmosaic/libmosaic/encoding/ByteReader" "position" "I" (.int (pp + p4_1))
set_option maxRecDepth 65536 in
set_option maxHeartbeats 40000000 in
theorem rm4 (l : Launch) (Z : State) (a0 : Array Value) (hw : ∀ d ∈ tables_1, d.before a0 Z = true) (ws : List Jvm.Cond) (a4_0 : Addr) (p4_1 : Int32) (ar : Addr) (pp : Int32) (ka : ClassId) (zz : Int32) (r4 : Addr) (h0 : Heap) (n0 : Nat) (Z0 : n0 ≤ h0.size) (FB : Fld Z h0 a4_0 "com/example/libmosaic/libmosaic/encoding/ByteReader" "bytes" "[B" (.ref ar)) (FP : Fld Z h0 a4_0 "com/example/libmosaic/libmosaic/encoding/ByteReader" "position" "I" (.int pp)) (FC : Fld Z h0 a4_0 "com/example/libmosaic/libmosaic/encoding/ByteReader" "complement" "I" (.int (0 : Int32))) (VA : Arv Z h0 ar ka .byte zz [] (.int (0 : Int32))) (EA : Exa Z h0 ar "[B") (gr_r4 : r4 = h0.size) (hpp : 0 ≤ pp.toInt) (hkk : 0 ≤ p4_1.toInt) (hpk : pp.toInt + p4_1.toInt ≤ zz.toInt) (hz7 : zz.toInt ≤ 7) (ne_ar_a4_0 : ar ≠ a4_0) (E_a4_0 : Exa Z h0 a4_0 "com/example/libmosaic/libmosaic/encoding/ByteReader") (g_a4_0 : n0 ≤ a4_0) :
    MetFree l (⟨"com/example/libmosaic/libmosaic/encoding/ByteReader", "read", "(I)[B"⟩ : MethodName) (head1 (Jvm.Cond.code (⟨"com/example/libmosaic/libmosaic/encoding/ByteReader", "read", "(I)[B"⟩ : MethodName) prog_9_method_3_code 4 (some (.array .byte)) :: ws) ({ frames := 3, cells := 1, slots := 7, locals := 48 } : Room)) (fun a U => a = #[(.ref a4_0), (.int p4_1)] ∧ Z.Warmed39 U.vm ∧ U.heap = h0) (fun _ _ _ _ _ => True) (fun _ U o U' => ∃ v L, o = .returned v ∧ Q4 Z a4_0 p4_1 ar pp ka zz r4 h0 n0 v U'.heap L ∧ FrameEnd U o U' L ({ frames := 3, cells := 1, slots := 7, locals := 48 } : Room).cells ({ frames := 3, cells := 1, slots := 7, locals := 48 } : Room).slots) := by
  refine MetFree.of_bodySF (plainFor_of_name pn_4) hisR ?_
  intro p e s m args below meth c s₁ Bd hml0 hP hK
  obtain ⟨rfl, hZ, hh⟩ := hP
  have hVV : ∀ (i : Nat) (d : Jvm.Cond), tables_1[i]? = some d → d.before a0 Z = true := fun i d h => hw d (List.mem_of_getElem? h)
  have hx := Bd.exec
  have hby := Bd.bytes
  have hml : c.maxLocals = 4 := hml0
  have hown : s.vm.findClass "com/example/libmosaic/libmosaic/encoding/ByteReader" = some m.cls := findClass_of_methodNamed Bd.named
  have hnm := (name_of_methodNamed Bd.named Bd.method).1
  have X0 : Stand p l e ({ frames := 3, cells := 1, slots := 7, locals := 48 } : Room) s m #[(.ref a4_0), (.int p4_1)] below meth c s₁ [] 0 0 := Stand.of_body Bd
  have e0 : s₁.heap = h0 := by rw [← hh, Bd.state]; rfl
  have N0 := Fr.nil n0
  have pre0 : ∀ t, Steps p.tables e below (s₁.setTop (mkF m 0 #[.val (.ref a4_0), .val (.int p4_1), .unset, .unset] [])) t → Steps p.tables e below (s₁.setTop (entryFrame m #[(.ref a4_0), (.int p4_1)] 4)) t := fun t k => castTop (ef_4 m a4_0 p4_1) k
  have hq2 : ¬ (p4_1 < (0 : Int32)) := by
    exact own_neg _ hkk
  have hq3 : ¬ ((zz - pp) < p4_1) := by
    rw [Int32.lt_iff_toInt_lt, own_sub zz pp hpp (by omega) hz7]
    omega
  obtain ⟨cq1, q1, q1'⟩ := E_a4_0.cell
  obtain ⟨_, _, ⟨T1, L1, k1, n1⟩, -, X1, ⟨Lc1, hQ1, l1, y1, z1⟩, st1⟩ := X0.privateBack hx (y := (⟨"com/example/libmosaic/libmosaic/encoding/ByteReader", "require", "(I)V"⟩ : MethodName)) hown (mvT hZ (hVV 25 _ rfl)) (mvT hZ (hVV 26 _ rfl)) (own_sel (z := (⟨"com/example/libmosaic/libmosaic/encoding/ByteReader", "atEnd", "()Z"⟩ : MethodName)) (mvT hZ (hVV 26 _ rfl)) (mvP hZ (hVV 27 _ rfl)) (mvT hZ (hVV 18 _ rfl)) rfl (by decide)) (Cond.privateMethod_at (mvP hZ (hVV 27 _ rfl) (args := #[]))) (mvT hZ (hVV 28 _ rfl)) (by decide) (backOf (W := 0) (rm5 l Z a0 hw [] a4_0 p4_1 ar pp ka zz h0 n0 Z0 FB FP VA EA ne_ar_a4_0 hq2 hq3) hZ (hVV 28 _ rfl) (hVV 4 _ rfl) (by decide) (by decide)) (g := (mkF m 2 #[.val (.ref a4_0), .val (.int p4_1), .unset, .unset] [(.int p4_1), (.ref a4_0)])) rfl (by rw [hml]; rfl) (Steps.refl _) (a := a4_0) (by rw [e0]; exact q1) q1' (argsL := [(.int p4_1)]) (rest := []) (lenOf pd_3 rfl) rfl (by show 2 * 0 + _ ≤ _; exact Nat.le_of_eq rfl) (hb hby d4_2) (fun _ _ => ⟨rfl, e0, (by decide : 0 + 0 ≤ _), (by decide : 0 + 0 ≤ _)⟩)
  dsimp only [Pt.U, Pt.locs, Pt.cells, Pt.slots] at X1 l1 y1 z1 st1 hQ1
  subst l1 y1 z1
  obtain ⟨rfl, N1q, e1⟩ := hQ1
  have N4 := Fr.app N0 N1q
  have pre5 : ∀ t, Steps p.tables e below (T1.setTop (mkF m 5 #[.val (.ref a4_0), .val (.int p4_1), .unset, .unset] [])) t → Steps p.tables e below (s₁.setTop (entryFrame m #[(.ref a4_0), (.int p4_1)] 4)) t := fun t k => pre0 t (by
    show Steps p.tables e below (s₁.setTop (mkF m 0 #[.val (.ref a4_0), .val (.int p4_1), .unset, .unset] [])) _
    refine XS.aloadN X0.here hx rfl (hb hby d4_0) rfl rfl ?_
    show Steps p.tables e below (s₁.setTop (mkF m 1 #[.val (.ref a4_0), .val (.int p4_1), .unset, .unset] [(.ref a4_0)])) _
    refine XS.iloadN X0.here hx rfl (hb hby d4_1) rfl ?_
    show Steps p.tables e below (s₁.setTop (mkF m 2 #[.val (.ref a4_0), .val (.int p4_1), .unset, .unset] [(.int p4_1), (.ref a4_0)])) _
    refine st1.trans ?_
    exact k)
  obtain ⟨T6, X6, e6, st6⟩ := getF X1 hx hZ hown (host := "") (Or.inl (hVV 11 _ rfl)) Via.refl e1 FB (g := (mkF m 6 #[.val (.ref a4_0), .val (.int p4_1), .unset, .unset] [(.ref a4_0)])) rfl rfl (hb hby d4_6)
  have pre7 : ∀ t, Steps p.tables e below (T6.setTop (mkF m 9 #[.val (.ref a4_0), .val (.int p4_1), .unset, .unset] [(.ref ar)])) t → Steps p.tables e below (s₁.setTop (entryFrame m #[(.ref a4_0), (.int p4_1)] 4)) t := fun t k => pre5 t (by
    show Steps p.tables e below (T1.setTop (mkF m 5 #[.val (.ref a4_0), .val (.int p4_1), .unset, .unset] [])) _
    refine XS.aloadN X1.here hx rfl (hb hby d4_5) rfl rfl ?_
    show Steps p.tables e below (T1.setTop (mkF m 6 #[.val (.ref a4_0), .val (.int p4_1), .unset, .unset] [(.ref a4_0)])) _
    refine st6 _ ?_
    exact k)
  obtain ⟨T8, X8, e8, st8⟩ := getF X6 hx hZ hown (host := "") (Or.inl (hVV 13 _ rfl)) Via.refl e6 FP (g := (mkF m 10 #[.val (.ref a4_0), .val (.int p4_1), .unset, .unset] [(.ref a4_0), (.ref ar)])) rfl rfl (hb hby d4_10)
  have pre9 : ∀ t, Steps p.tables e below (T8.setTop (mkF m 13 #[.val (.ref a4_0), .val (.int p4_1), .unset, .unset] [(.int pp), (.ref ar)])) t → Steps p.tables e below (s₁.setTop (entryFrame m #[(.ref a4_0), (.int p4_1)] 4)) t := fun t k => pre7 t (by
    show Steps p.tables e below (T6.setTop (mkF m 9 #[.val (.ref a4_0), .val (.int p4_1), .unset, .unset] [(.ref ar)])) _
    refine XS.aloadN X6.here hx rfl (hb hby d4_9) rfl rfl ?_
    show Steps p.tables e below (T6.setTop (mkF m 10 #[.val (.ref a4_0), .val (.int p4_1), .unset, .unset] [(.ref a4_0), (.ref ar)])) _
    refine st8 _ ?_
    exact k)
  obtain ⟨T10, X10, e10, st10⟩ := getF X8 hx hZ hown (host := "") (Or.inl (hVV 13 _ rfl)) Via.refl e8 FP (g := (mkF m 14 #[.val (.ref a4_0), .val (.int p4_1), .unset, .unset] [(.ref a4_0), (.int pp), (.ref ar)])) rfl rfl (hb hby d4_14)
  have pre11 : ∀ t, Steps p.tables e below (T10.setTop (mkF m 17 #[.val (.ref a4_0), .val (.int p4_1), .unset, .unset] [(.int pp), (.int pp), (.ref ar)])) t → Steps p.tables e below (s₁.setTop (entryFrame m #[(.ref a4_0), (.int p4_1)] 4)) t := fun t k => pre9 t (by
    show Steps p.tables e below (T8.setTop (mkF m 13 #[.val (.ref a4_0), .val (.int p4_1), .unset, .unset] [(.int pp), (.ref ar)])) _
    refine XS.aloadN X8.here hx rfl (hb hby d4_13) rfl rfl ?_
    show Steps p.tables e below (T8.setTop (mkF m 14 #[.val (.ref a4_0), .val (.int p4_1), .unset, .unset] [(.ref a4_0), (.int pp), (.ref ar)])) _
    refine st10 _ ?_
    exact k)
  have g13 := gr_r4
  have gz13 : n0 ≤ r4 := Nat.le_trans Z0 (Nat.le_of_eq g13.symm)
  have sz13 : h0.size ≤ r4 := Nat.le_trans (Keep.refl h0 [a4_0]).1 (Nat.le_of_eq g13.symm)
  have ne14 : ar ≠ r4 := Nat.ne_of_lt (Nat.lt_of_lt_of_le VA.lt (Nat.le_of_eq g13.symm))
  have ne15 : a4_0 ≠ r4 := Nat.ne_of_lt (Nat.lt_of_lt_of_le FB.lt (Nat.le_of_eq g13.symm))
  have hq16 : 0 ≤ pp.toInt := by
    exact hpp
  have hq17 : pp.toInt ≤ (pp + p4_1).toInt := by
    rw [own_add _ _ zz hpp hkk hpk hz7]
    omega
  have hq18 : (pp + p4_1).toInt ≤ zz.toInt := by
    rw [own_add _ _ zz hpp hkk hpk hz7]
    exact hpk
  have hq19 : zz.toInt ≤ 7 := by
    exact hz7
  obtain ⟨_, _, ⟨T12, L12, k12, n12⟩, -, X12, ⟨Lc12, hQ12, l12, y12, z12⟩, st12⟩ := Jvm.LawKit.callS X10 hx (y := (⟨"java/util/Arrays", "copyOfRange", "([BII)[B"⟩ : MethodName)) hown (mvT hZ (hVV 29 _ rfl)) (mvT hZ (hVV 30 _ rfl)) (mvT hZ (hVV 31 _ rfl)) (mvT hZ (hVV 32 _ rfl)) (by decide) (backOf (W := 0) (rm6 l Z a0 hw [] ar pp (pp + p4_1) ka zz r4 h0 n0 Z0 VA EA g13 hq16 hq17 hq18 hq19) hZ (hVV 32 _ rfl) (hVV 31 _ rfl) (by decide) (by decide)) (g := (mkF m 19 #[.val (.ref a4_0), .val (.int p4_1), .unset, .unset] [(.int (pp + p4_1)), (.int pp), (.ref ar)])) rfl (by rw [hml]; rfl) (argsL := [(.ref ar), (.int pp), (.int (pp + p4_1))]) (rest := []) (lenOf pd_2 rfl) rfl (by show 2 * 0 + _ ≤ _; exact Nat.le_of_eq rfl) (hb hby d4_19) (fun _ _ => ⟨rfl, e10, (by decide : 0 + 1 ≤ _), (by decide : 0 + 7 ≤ _)⟩)
  dsimp only [Pt.U, Pt.locs, Pt.cells, Pt.slots] at X12 l12 y12 z12 st12 hQ12
  subst l12 y12 z12
  obtain ⟨rfl, N12q, K12⟩ := hQ12
  have N20 := Fr.app N4 N12q
  have pre21 : ∀ t, Steps p.tables e below (T12.setTop (mkF m 22 #[.val (.ref a4_0), .val (.int p4_1), .unset, .unset] [(.ref r4)])) t → Steps p.tables e below (s₁.setTop (entryFrame m #[(.ref a4_0), (.int p4_1)] 4)) t := fun t k => pre11 t (by
    show Steps p.tables e below (T10.setTop (mkF m 17 #[.val (.ref a4_0), .val (.int p4_1), .unset, .unset] [(.int pp), (.int pp), (.ref ar)])) _
    refine XS.iloadN X10.here hx rfl (hb hby d4_17) rfl ?_
    show Steps p.tables e below (T10.setTop (mkF m 18 #[.val (.ref a4_0), .val (.int p4_1), .unset, .unset] [(.int p4_1), (.int pp), (.int pp), (.ref ar)])) _
    refine XS.iadd X10.here hx rfl (hb hby d4_18) rfl ?_
    show Steps p.tables e below (T10.setTop (mkF m 19 #[.val (.ref a4_0), .val (.int p4_1), .unset, .unset] [(.int (pp + p4_1)), (.int pp), (.ref ar)])) _
    refine st12 _ ?_
    exact k)
  have f22 := VA.keep K12 nin0
  have f23 := EA.keep K12
  have f24 := FB.keep K12 nin0
  have f25 := FP.keep K12 nin0
  have f26 := FC.keep K12 nin0
  have f27 := E_a4_0.keep K12
  have z28 := Nat.le_trans Z0 K12.1
  have k29 := (Keep.refl h0 [a4_0]).trans K12 all0
  obtain ⟨T30, X30, e30, st30⟩ := getF X12 hx hZ hown (host := "") (Or.inl (hVV 42 _ rfl)) Via.refl rfl f26 (g := (mkF m 24 #[.val (.ref a4_0), .val (.int p4_1), .val (.ref r4), .unset] [(.ref a4_0)])) rfl rfl (hb hby d4_24)
  have pre31 : ∀ t, Steps p.tables e below (T30.setTop (mkF m 27 #[.val (.ref a4_0), .val (.int p4_1), .val (.ref r4), .unset] [(.int (0 : Int32))])) t → Steps p.tables e below (s₁.setTop (entryFrame m #[(.ref a4_0), (.int p4_1)] 4)) t := fun t k => pre21 t (by
    show Steps p.tables e below (T12.setTop (mkF m 22 #[.val (.ref a4_0), .val (.int p4_1), .unset, .unset] [(.ref r4)])) _
    refine XS.astoreN X12.here hx rfl (hb hby d4_22) rfl rfl (l' := #[.val (.ref a4_0), .val (.int p4_1), .val (.ref r4), .unset]) rfl ?_
    show Steps p.tables e below (T12.setTop (mkF m 23 #[.val (.ref a4_0), .val (.int p4_1), .val (.ref r4), .unset] [])) _
    refine XS.aloadN X12.here hx rfl (hb hby d4_23) rfl rfl ?_
    show Steps p.tables e below (T12.setTop (mkF m 24 #[.val (.ref a4_0), .val (.int p4_1), .val (.ref r4), .unset] [(.ref a4_0)])) _
    refine st30 _ ?_
    exact k)
  obtain ⟨T32, X32, e32, st32⟩ := getF X30 hx hZ hown (host := "") (Or.inl (hVV 13 _ rfl)) Via.refl e30 f25 (g := (mkF m 56 #[.val (.ref a4_0), .val (.int p4_1), .val (.ref r4), .unset] [(.ref a4_0), (.ref a4_0)])) rfl rfl (hb hby d4_56)
  have pre33 : ∀ t, Steps p.tables e below (T32.setTop (mkF m 59 #[.val (.ref a4_0), .val (.int p4_1), .val (.ref r4), .unset] [(.int pp), (.ref a4_0)])) t → Steps p.tables e below (s₁.setTop (entryFrame m #[(.ref a4_0), (.int p4_1)] 4)) t := fun t k => pre31 t (by
    show Steps p.tables e below (T30.setTop (mkF m 27 #[.val (.ref a4_0), .val (.int p4_1), .val (.ref r4), .unset] [(.int (0 : Int32))])) _
    refine XS.ifYes X30.here hx rfl (pc0 := 27) (pc' := 54) rfl (hb hby d4_27) rfl ((if0 _ _).trans (teq (by decide : (0 : Int32) = (0 : Int32))).1) (by decide) (by decide) ?_
    show Steps p.tables e below (T30.setTop (mkF m 54 #[.val (.ref a4_0), .val (.int p4_1), .val (.ref r4), .unset] [])) _
    refine XS.aloadN X30.here hx rfl (hb hby d4_54) rfl rfl ?_
    show Steps p.tables e below (T30.setTop (mkF m 55 #[.val (.ref a4_0), .val (.int p4_1), .val (.ref r4), .unset] [(.ref a4_0)])) _
    refine XS.dup X30.here hx rfl (hb hby d4_55) rfl rfl ?_
    show Steps p.tables e below (T30.setTop (mkF m 56 #[.val (.ref a4_0), .val (.int p4_1), .val (.ref r4), .unset] [(.ref a4_0), (.ref a4_0)])) _
    refine st32 _ ?_
    exact k)
  obtain ⟨T34, h34, X34, e34, W34, st34⟩ := putF X32 hx hZ hown (host := "") (Or.inl (hVV 13 _ rfl)) Via.refl e32 f25 f27 (Or.inl (hVV 14 _ rfl)) (hVV 3 _ rfl) (ty := .int) (by decide) rfl rfl (g := (mkF m 61 #[.val (.ref a4_0), .val (.int p4_1), .val (.ref r4), .unset] [(.int (pp + p4_1)), (.ref a4_0)])) rfl rfl (hb hby d4_61)
  have pre35 : ∀ t, Steps p.tables e below (T34.setTop (mkF m 64 #[.val (.ref a4_0), .val (.int p4_1), .val (.ref r4), .unset] [])) t → Steps p.tables e below (s₁.setTop (entryFrame m #[(.ref a4_0), (.int p4_1)] 4)) t := fun t k => pre33 t (by
    show Steps p.tables e below (T32.setTop (mkF m 59 #[.val (.ref a4_0), .val (.int p4_1), .val (.ref r4), .unset] [(.int pp), (.ref a4_0)])) _
    refine XS.iloadN X32.here hx rfl (hb hby d4_59) rfl ?_
    show Steps p.tables e below (T32.setTop (mkF m 60 #[.val (.ref a4_0), .val (.int p4_1), .val (.ref r4), .unset] [(.int p4_1), (.int pp), (.ref a4_0)])) _
    refine XS.iadd X32.here hx rfl (hb hby d4_60) rfl ?_
    show Steps p.tables e below (T32.setTop (mkF m 61 #[.val (.ref a4_0), .val (.int p4_1), .val (.ref r4), .unset] [(.int (pp + p4_1)), (.ref a4_0)])) _
    refine st34 _ ?_
    exact k)
  have f36 := f22.other W34 ne_ar_a4_0
  have f37 := f23.wr W34
  have f38 := f24.other W34 (Or.inr (slot_ne (Or.inr (hVV 12 _ rfl)) (Or.inl (hVV 14 _ rfl)) (by decide) (t := (.array .byte)) (t' := .int) (by decide) (by decide)))
  have f39 := f26.other W34 (Or.inr (slot_ne (Or.inl (hVV 43 _ rfl)) (Or.inl (hVV 14 _ rfl)) (by decide) (t := .int) (t' := .int) (by decide) (by decide)))
  have f40 := f27.wr W34
  have z41 := Nat.le_trans z28 (Keep.of_wr W34).1
  have k42 := k29.wr W34 (Or.inl (List.mem_of_getElem? (i := 0) rfl))
  have f43 := f25.same W34
  have N44 := Fr.snoc X34 N20 g_a4_0
  obtain ⟨fs, hr, hrun, hended, hW, hsame⟩ := X34.leave (v := some (.ref r4)) (fun h => by rw [Bd.returns] at h; cases h)
  refine ⟨_, _, pre35 _ ?_, hrun, hended, _, _, rfl, ?_, ⟨_, rfl⟩, hW, hsame.mono (by decide) (by decide)⟩
  · show Steps p.tables e below (T34.setTop (mkF m 64 #[.val (.ref a4_0), .val (.int p4_1), .val (.ref r4), .unset] [])) _
    refine XS.aloadN X34.here hx rfl (hb hby d4_64) rfl rfl ?_
    show Steps p.tables e below (T34.setTop (mkF m 65 #[.val (.ref a4_0), .val (.int p4_1), .val (.ref r4), .unset] [(.ref r4)])) _
    jvm_step X34.here [X34.here.top, hx, (hb hby d4_65), X34.method', Bd.returns, Value.isRef, FieldType.isReference]
    first | (intro acts; rw [hr _ acts rfl rfl rfl]) | rw [hr _ _ rfl rfl rfl]
    exact Steps.refl _
  · show Q4 Z a4_0 p4_1 ar pp ka zz r4 h0 n0 _ T34.heap _
    rw [e34]
    exact ⟨rfl, N44, k42, f40, f38, f39, f43⟩
theorem d10_0 : decode prog_9_method_2_code 0 = .ok (.aload_n 0, 1) := by decide +kernel
theorem d10_1 : decode prog_9_method_2_code 1 = .ok (.iconst 1, 1) := by decide +kernel
theorem d10_2 : decode prog_9_method_2_code 2 = .ok (.invokevirtual 26, 3) := by decide +kernel
theorem d10_5 : decode prog_9_method_2_code 5 = .ok (.aload_n 0, 1) := by decide +kernel
theorem d10_6 : decode prog_9_method_2_code 6 = .ok (.getfield 16, 3) := by decide +kernel
theorem d10_9 : decode prog_9_method_2_code 9 = .ok (.aload_n 0, 1) := by decide +kernel
theorem d10_10 : decode prog_9_method_2_code 10 = .ok (.dup, 1) := by decide +kernel
theorem d10_11 : decode prog_9_method_2_code 11 = .ok (.getfield 22, 3) := by decide +kernel
theorem d10_14 : decode prog_9_method_2_code 14 = .ok (.dup_x1, 1) := by decide +kernel
theorem d10_15 : decode prog_9_method_2_code 15 = .ok (.iconst 1, 1) := by decide +kernel
theorem d10_16 : decode prog_9_method_2_code 16 = .ok (.iadd, 1) := by decide +kernel
theorem d10_17 : decode prog_9_method_2_code 17 = .ok (.putfield 22, 3) := by decide +kernel
theorem d10_20 : decode prog_9_method_2_code 20 = .ok (.baload, 1) := by decide +kernel
theorem d10_21 : decode prog_9_method_2_code 21 = .ok (.sipush 255, 3) := by decide +kernel
theorem d10_24 : decode prog_9_method_2_code 24 = .ok (.iand, 1) := by decide +kernel
theorem d10_25 : decode prog_9_method_2_code 25 = .ok (.aload_n 0, 1) := by decide +kernel
theorem d10_26 : decode prog_9_method_2_code 26 = .ok (.getfield 30, 3) := by decide +kernel
theorem d10_29 : decode prog_9_method_2_code 29 = .ok (.ixor, 1) := by decide +kernel
theorem d10_30 : decode prog_9_method_2_code 30 = .ok (.ireturn, 1) := by decide +kernel
theorem pn_10 : plainName "com/example/libmosaic/libmosaic/encoding/ByteReader" = true := by first | (simp [plainName, overriddenIn]; done) | decide +kernel
theorem ef_10 (m : MethodId) (x0 : Addr) : entryFrame m #[(.ref x0)] 1 = mkF m 0 #[.val (.ref x0)] [] := by first | (simp [entryFrame, mkF, argsToLocals, Value.category]; done) | rfl
def Q10 (Z : State) (a10_0 : Addr) (ar : Addr) (pp : Int32) (ka : ClassId) (zz : Int32) (h0 : Heap) (n0 : Nat) (v : Option Value) (h : Heap) (L : List Loc) : Prop := v = some (.int (((0 : Int32) &&& (255 : Int32)) ^^^ (0 : Int32))) ∧ Fr n0 L ∧ Keep h0 h [a10_0] ∧ Exa Z h a10_0 "com/example/libmosaic/libmosaic/encoding/ByteReader" ∧ Fld Z h a10_0 "com/example/libmosaic/libmosaic/encoding/ByteReader" "bytes" "[B" (.ref ar) ∧ Fld Z h a10_0 "com/example/libmosaic/libmosaic/encoding/ByteReader" "complement" "I" (.int (0 : Int32)) ∧ Fld Z h a10_0 "com/example/libmosaic/libmosaic/encoding/ByteReader" "position" "I" (.int (pp + (1 : Int32)))
set_option maxRecDepth 65536 in
set_option maxHeartbeats 40000000 in
theorem rm10 (l : Launch) (Z : State) (a0 : Array Value) (hw : ∀ d ∈ tables_1, d.before a0 Z = true) (ws : List Jvm.Cond) (a10_0 : Addr) (ar : Addr) (pp : Int32) (ka : ClassId) (zz : Int32) (h0 : Heap) (n0 : Nat) (Z0 : n0 ≤ h0.size) (FB : Fld Z h0 a10_0 "com/example/libmosaic/libmosaic/encoding/ByteReader" "bytes" "[B" (.ref ar)) (FP : Fld Z h0 a10_0 "com/example/libmosaic/libmosaic/encoding/ByteReader" "position" "I" (.int pp)) (FC : Fld Z h0 a10_0 "com/example/libmosaic/libmosaic/encoding/ByteReader" "complement" "I" (.int (0 : Int32))) (VA : Arv Z h0 ar ka .byte zz [] (.int (0 : Int32))) (EA : Exa Z h0 ar "[B") (hpp : 0 ≤ pp.toInt) (hp1 : pp.toInt + 1 ≤ zz.toInt) (hz7 : zz.toInt ≤ 7) (ne_ar_a10_0 : ar ≠ a10_0) (E_a10_0 : Exa Z h0 a10_0 "com/example/libmosaic/libmosaic/encoding/ByteReader") (g_a10_0 : n0 ≤ a10_0) :
    MetFree l (⟨"com/example/libmosaic/libmosaic/encoding/ByteReader", "read", "()I"⟩ : MethodName) (head1 (Jvm.Cond.code (⟨"com/example/libmosaic/libmosaic/encoding/ByteReader", "read", "()I"⟩ : MethodName) prog_9_method_2_code 1 (some .int) :: ws) ({ frames := 1, cells := 0, slots := 0, locals := 13 } : Room)) (fun a U => a = #[(.ref a10_0)] ∧ Z.Warmed39 U.vm ∧ U.heap = h0) (fun _ _ _ _ _ => True) (fun _ U o U' => ∃ v L, o = .returned v ∧ Q10 Z a10_0 ar pp ka zz h0 n0 v U'.heap L ∧ FrameEnd U o U' L ({ frames := 1, cells := 0, slots := 0, locals := 13 } : Room).cells ({ frames := 1, cells := 0, slots := 0, locals := 13 } : Room).slots) := by
  refine MetFree.of_bodySF (plainFor_of_name pn_10) hisR ?_
  intro p e s m args below meth c s₁ Bd hml0 hP hK
  obtain ⟨rfl, hZ, hh⟩ := hP
  have hVV : ∀ (i : Nat) (d : Jvm.Cond), tables_1[i]? = some d → d.before a0 Z = true := fun i d h => hw d (List.mem_of_getElem? h)
  have hx := Bd.exec
  have hby := Bd.bytes
  have hml : c.maxLocals = 1 := hml0
  have hown : s.vm.findClass "com/example/libmosaic/libmosaic/encoding/ByteReader" = some m.cls := findClass_of_methodNamed Bd.named
  have hnm := (name_of_methodNamed Bd.named Bd.method).1
  have X0 : Stand p l e ({ frames := 1, cells := 0, slots := 0, locals := 13 } : Room) s m #[(.ref a10_0)] below meth c s₁ [] 0 0 := Stand.of_body Bd
  have e0 : s₁.heap = h0 := by rw [← hh, Bd.state]; rfl
  have N0 := Fr.nil n0
  have pre0 : ∀ t, Steps p.tables e below (s₁.setTop (mkF m 0 #[.val (.ref a10_0)] [])) t → Steps p.tables e below (s₁.setTop (entryFrame m #[(.ref a10_0)] 1)) t := fun t k => castTop (ef_10 m a10_0) k
  have hq2 : ¬ ((1 : Int32) < (0 : Int32)) := by
    decide
  have hq3 : ¬ ((zz - pp) < (1 : Int32)) := by
    rw [Int32.lt_iff_toInt_lt, own_sub zz pp hpp (by omega) hz7, own_1]
    omega
  obtain ⟨cq1, q1, q1'⟩ := E_a10_0.cell
  obtain ⟨_, _, ⟨T1, L1, k1, n1⟩, -, X1, ⟨Lc1, hQ1, l1, y1, z1⟩, st1⟩ := X0.privateBack hx (y := (⟨"com/example/libmosaic/libmosaic/encoding/ByteReader", "require", "(I)V"⟩ : MethodName)) hown (mvT hZ (hVV 25 _ rfl)) (mvT hZ (hVV 26 _ rfl)) (own_sel (z := (⟨"com/example/libmosaic/libmosaic/encoding/ByteReader", "atEnd", "()Z"⟩ : MethodName)) (mvT hZ (hVV 26 _ rfl)) (mvP hZ (hVV 27 _ rfl)) (mvT hZ (hVV 18 _ rfl)) rfl (by decide)) (Cond.privateMethod_at (mvP hZ (hVV 27 _ rfl) (args := #[]))) (mvT hZ (hVV 28 _ rfl)) (by decide) (backOf (W := 0) (rm5 l Z a0 hw [] a10_0 (1 : Int32) ar pp ka zz h0 n0 Z0 FB FP VA EA ne_ar_a10_0 hq2 hq3) hZ (hVV 28 _ rfl) (hVV 4 _ rfl) (by decide) (by decide)) (g := (mkF m 2 #[.val (.ref a10_0)] [(.int (1 : Int32)), (.ref a10_0)])) rfl (by rw [hml]; rfl) (Steps.refl _) (a := a10_0) (by rw [e0]; exact q1) q1' (argsL := [(.int (1 : Int32))]) (rest := []) (lenOf pd_3 rfl) rfl (by show 2 * 0 + _ ≤ _; exact Nat.le_of_eq rfl) (hb hby d10_2) (fun _ _ => ⟨rfl, e0, (by decide : 0 + 0 ≤ _), (by decide : 0 + 0 ≤ _)⟩)
  dsimp only [Pt.U, Pt.locs, Pt.cells, Pt.slots] at X1 l1 y1 z1 st1 hQ1
  subst l1 y1 z1
  obtain ⟨rfl, N1q, e1⟩ := hQ1
  have N4 := Fr.app N0 N1q
  have pre5 : ∀ t, Steps p.tables e below (T1.setTop (mkF m 5 #[.val (.ref a10_0)] [])) t → Steps p.tables e below (s₁.setTop (entryFrame m #[(.ref a10_0)] 1)) t := fun t k => pre0 t (by
    show Steps p.tables e below (s₁.setTop (mkF m 0 #[.val (.ref a10_0)] [])) _
    refine XS.aloadN X0.here hx rfl (hb hby d10_0) rfl rfl ?_
    show Steps p.tables e below (s₁.setTop (mkF m 1 #[.val (.ref a10_0)] [(.ref a10_0)])) _
    refine XS.iconst X0.here hx rfl (hb hby d10_1) ?_
    show Steps p.tables e below (s₁.setTop (mkF m 2 #[.val (.ref a10_0)] [(.int (1 : Int32)), (.ref a10_0)])) _
    refine st1.trans ?_
    exact k)
  obtain ⟨T6, X6, e6, st6⟩ := getF X1 hx hZ hown (host := "") (Or.inl (hVV 11 _ rfl)) Via.refl e1 FB (g := (mkF m 6 #[.val (.ref a10_0)] [(.ref a10_0)])) rfl rfl (hb hby d10_6)
  have pre7 : ∀ t, Steps p.tables e below (T6.setTop (mkF m 9 #[.val (.ref a10_0)] [(.ref ar)])) t → Steps p.tables e below (s₁.setTop (entryFrame m #[(.ref a10_0)] 1)) t := fun t k => pre5 t (by
    show Steps p.tables e below (T1.setTop (mkF m 5 #[.val (.ref a10_0)] [])) _
    refine XS.aloadN X1.here hx rfl (hb hby d10_5) rfl rfl ?_
    show Steps p.tables e below (T1.setTop (mkF m 6 #[.val (.ref a10_0)] [(.ref a10_0)])) _
    refine st6 _ ?_
    exact k)
  obtain ⟨T8, X8, e8, st8⟩ := getF X6 hx hZ hown (host := "") (Or.inl (hVV 13 _ rfl)) Via.refl e6 FP (g := (mkF m 11 #[.val (.ref a10_0)] [(.ref a10_0), (.ref a10_0), (.ref ar)])) rfl rfl (hb hby d10_11)
  have pre9 : ∀ t, Steps p.tables e below (T8.setTop (mkF m 14 #[.val (.ref a10_0)] [(.int pp), (.ref a10_0), (.ref ar)])) t → Steps p.tables e below (s₁.setTop (entryFrame m #[(.ref a10_0)] 1)) t := fun t k => pre7 t (by
    show Steps p.tables e below (T6.setTop (mkF m 9 #[.val (.ref a10_0)] [(.ref ar)])) _
    refine XS.aloadN X6.here hx rfl (hb hby d10_9) rfl rfl ?_
    show Steps p.tables e below (T6.setTop (mkF m 10 #[.val (.ref a10_0)] [(.ref a10_0), (.ref ar)])) _
    refine XS.dup X6.here hx rfl (hb hby d10_10) rfl rfl ?_
    show Steps p.tables e below (T6.setTop (mkF m 11 #[.val (.ref a10_0)] [(.ref a10_0), (.ref a10_0), (.ref ar)])) _
    refine st8 _ ?_
    exact k)
  obtain ⟨T10, h10, X10, e10, W10, st10⟩ := putF X8 hx hZ hown (host := "") (Or.inl (hVV 13 _ rfl)) Via.refl e8 FP E_a10_0 (Or.inl (hVV 14 _ rfl)) (hVV 3 _ rfl) (ty := .int) (by decide) rfl rfl (g := (mkF m 17 #[.val (.ref a10_0)] [(.int (pp + (1 : Int32))), (.ref a10_0), (.int pp), (.ref ar)])) rfl rfl (hb hby d10_17)
  have pre11 : ∀ t, Steps p.tables e below (T10.setTop (mkF m 20 #[.val (.ref a10_0)] [(.int pp), (.ref ar)])) t → Steps p.tables e below (s₁.setTop (entryFrame m #[(.ref a10_0)] 1)) t := fun t k => pre9 t (by
    show Steps p.tables e below (T8.setTop (mkF m 14 #[.val (.ref a10_0)] [(.int pp), (.ref a10_0), (.ref ar)])) _
    refine XS.dupX1 X8.here hx rfl (hb hby d10_14) rfl rfl rfl ?_
    show Steps p.tables e below (T8.setTop (mkF m 15 #[.val (.ref a10_0)] [(.int pp), (.ref a10_0), (.int pp), (.ref ar)])) _
    refine XS.iconst X8.here hx rfl (hb hby d10_15) ?_
    show Steps p.tables e below (T8.setTop (mkF m 16 #[.val (.ref a10_0)] [(.int (1 : Int32)), (.int pp), (.ref a10_0), (.int pp), (.ref ar)])) _
    refine XS.iadd X8.here hx rfl (hb hby d10_16) rfl ?_
    show Steps p.tables e below (T8.setTop (mkF m 17 #[.val (.ref a10_0)] [(.int (pp + (1 : Int32))), (.ref a10_0), (.int pp), (.ref ar)])) _
    refine st10 _ ?_
    exact k)
  have f12 := VA.other W10 ne_ar_a10_0
  have f13 := EA.wr W10
  have f14 := FB.other W10 (Or.inr (slot_ne (Or.inr (hVV 12 _ rfl)) (Or.inl (hVV 14 _ rfl)) (by decide) (t := (.array .byte)) (t' := .int) (by decide) (by decide)))
  have f15 := FC.other W10 (Or.inr (slot_ne (Or.inl (hVV 43 _ rfl)) (Or.inl (hVV 14 _ rfl)) (by decide) (t := .int) (t' := .int) (by decide) (by decide)))
  have f16 := E_a10_0.wr W10
  have z17 := Nat.le_trans Z0 (Keep.of_wr W10).1
  have k18 := (Keep.refl h0 [a10_0]).wr W10 (Or.inl (List.mem_of_getElem? (i := 0) rfl))
  have f19 := FP.same W10
  have N20 := Fr.snoc X10 N4 g_a10_0
  obtain ⟨cl21, Ar21, q21, S21, N21, H21, G21⟩ := id f12
  have hin21 : ¬ (pp < 0 ∨ cl21.slots.size ≤ (pp).toNatClampNeg) := inb_of S21 ⟨own_neg _ hpp, by rw [Int32.lt_iff_toInt_lt]; omega⟩
  have hat21 : cl21.slots[(pp).toNatClampNeg]? = some (.int (0 : Int32)) := Has.at H21 hin21 rfl
  obtain ⟨T22, X22, e22, st22⟩ := getF X10 hx hZ hown (host := "") (Or.inl (hVV 42 _ rfl)) Via.refl e10 f15 (g := (mkF m 26 #[.val (.ref a10_0)] [(.ref a10_0), (.int ((0 : Int32) &&& (255 : Int32)))])) rfl rfl (hb hby d10_26)
  have pre23 : ∀ t, Steps p.tables e below (T22.setTop (mkF m 29 #[.val (.ref a10_0)] [(.int (0 : Int32)), (.int ((0 : Int32) &&& (255 : Int32)))])) t → Steps p.tables e below (s₁.setTop (entryFrame m #[(.ref a10_0)] 1)) t := fun t k => pre11 t (by
    show Steps p.tables e below (T10.setTop (mkF m 20 #[.val (.ref a10_0)] [(.int pp), (.ref ar)])) _
    refine X10.baloadBytes hx (j := pp) (v := (.int (0 : Int32))) (by rw [e10]; exact Ar21.1) (State.isArrayOf_alike hZ.alike Ar21.2.1) Ar21.2.2 hin21 hat21 (g := (mkF m 20 #[.val (.ref a10_0)] [(.int pp), (.ref ar)])) rfl rfl (hb hby d10_20) _ ?_
    show Steps p.tables e below (T10.setTop (mkF m 21 #[.val (.ref a10_0)] [(.int (0 : Int32))])) _
    refine XS.sipush X10.here hx rfl (hb hby d10_21) ?_
    show Steps p.tables e below (T10.setTop (mkF m 24 #[.val (.ref a10_0)] [(.int (255 : Int32)), (.int (0 : Int32))])) _
    refine XS.iand X10.here hx rfl (hb hby d10_24) rfl ?_
    show Steps p.tables e below (T10.setTop (mkF m 25 #[.val (.ref a10_0)] [(.int ((0 : Int32) &&& (255 : Int32)))])) _
    refine XS.aloadN X10.here hx rfl (hb hby d10_25) rfl rfl ?_
    show Steps p.tables e below (T10.setTop (mkF m 26 #[.val (.ref a10_0)] [(.ref a10_0), (.int ((0 : Int32) &&& (255 : Int32)))])) _
    refine st22 _ ?_
    exact k)
  obtain ⟨fs, hr, hrun, hended, hW, hsame⟩ := X22.leave (v := some (.int (((0 : Int32) &&& (255 : Int32)) ^^^ (0 : Int32)))) (fun h => by rw [Bd.returns] at h; cases h)
  refine ⟨_, _, pre23 _ ?_, hrun, hended, _, _, rfl, ?_, ⟨_, rfl⟩, hW, hsame.mono (by decide) (by decide)⟩
  · show Steps p.tables e below (T22.setTop (mkF m 29 #[.val (.ref a10_0)] [(.int (0 : Int32)), (.int ((0 : Int32) &&& (255 : Int32)))])) _
    refine XS.ixor X22.here hx rfl (hb hby d10_29) rfl ?_
    show Steps p.tables e below (T22.setTop (mkF m 30 #[.val (.ref a10_0)] [(.int (((0 : Int32) &&& (255 : Int32)) ^^^ (0 : Int32)))])) _
    exact retI X22 hx Bd.returns (hb hby d10_30) hr
  · show Q10 Z a10_0 ar pp ka zz h0 n0 _ T22.heap _
    rw [e22]
    exact ⟨rfl, N20, k18, f16, f14, f15, f19⟩
theorem pd_4 : parseMethodDescriptor "([BI)V" = some ⟨[(.array .byte), .int], none⟩ := by decide +kernel
theorem pd_5 : parseMethodDescriptor "()Z" = some ⟨[], some .boolean⟩ := by decide +kernel
theorem pd_6 : parseMethodDescriptor "(I)[B" = some ⟨[.int], some (.array .byte)⟩ := by decide +kernel
theorem pd_7 : parseMethodDescriptor "()I" = some ⟨[], some .int⟩ := by decide +kernel
theorem pn_0 : plainName "com/example/libmosaic/libmosaic/encoding/ByteReaderAtEndPinLaw" = true := by first | (simp [plainName, overriddenIn]; done) | decide +kernel
theorem ef_0 (m : MethodId) (x0 : Int32) (x1 : Int32) (x2 : Int32) (x3 : Int32) : entryFrame m #[(.int x0), (.int x1), (.int x2), (.int x3)] maxLocals = mkF m 0 #[.val (.int x0), .val (.int x1), .val (.int x2), .val (.int x3), .unset, .unset, .unset, .unset, .unset, .unset, .unset, .unset, .unset, .unset, .unset] [] := by first | (simp [entryFrame, mkF, argsToLocals, Value.category, maxLocals]; done) | rfl
def Q0 (Z : State) (p0_0 : Int32) (p0_1 : Int32) (p0_2 : Int32) (p0_3 : Int32) (h0 : Heap) (n0 : Nat) (v : Option Value) (h : Heap) (L : List Loc) : Prop := v = some (.int (1 : Int32)) ∧ Fr n0 L
set_option maxRecDepth 65536 in
set_option maxHeartbeats 40000000 in
theorem rm0 (l : Launch) (Z : State) (a0 : Array Value) (hw : ∀ d ∈ tables_1, d.before a0 Z = true) (ws : List Jvm.Cond) (p0_0 : Int32) (p0_1 : Int32) (p0_2 : Int32) (p0_3 : Int32) (h0 : Heap) (n0 : Nat) (Z0 : n0 ≤ h0.size) :
    MetFree l x (head1 (Jvm.Cond.code x code maxLocals ret :: ws) room_1) (fun a U => a = #[(.int p0_0), (.int p0_1), (.int p0_2), (.int p0_3)] ∧ Z.Warmed39 U.vm ∧ U.heap = h0) (fun _ _ _ _ _ => True) (fun _ U o U' => ∃ v L, o = .returned v ∧ Q0 Z p0_0 p0_1 p0_2 p0_3 h0 n0 v U'.heap L ∧ FrameEnd U o U' L room_1.cells room_1.slots) := by
  refine MetFree.of_bodySF (plainFor_of_name pn_0) hisR ?_
  intro p e s m args below meth c s₁ Bd hml0 hP hK
  obtain ⟨rfl, hZ, hh⟩ := hP
  have hVV : ∀ (i : Nat) (d : Jvm.Cond), tables_1[i]? = some d → d.before a0 Z = true := fun i d h => hw d (List.mem_of_getElem? h)
  have hx := Bd.exec
  have hby := Bd.bytes
  have hml : c.maxLocals = 15 := hml0
  have hown : s.vm.findClass "com/example/libmosaic/libmosaic/encoding/ByteReaderAtEndPinLaw" = some m.cls := findClass_of_methodNamed Bd.named
  have hnm := (name_of_methodNamed Bd.named Bd.method).1
  have X0 : Stand p l e room_1 s m #[(.int p0_0), (.int p0_1), (.int p0_2), (.int p0_3)] below meth c s₁ [] 0 0 := Stand.of_body Bd
  have e0 : s₁.heap = h0 := by rw [← hh, Bd.state]; rfl
  have N0 := Fr.nil n0
  have pre0 : ∀ t, Steps p.tables e below (s₁.setTop (mkF m 0 #[.val (.int p0_0), .val (.int p0_1), .val (.int p0_2), .val (.int p0_3), .unset, .unset, .unset, .unset, .unset, .unset, .unset, .unset, .unset, .unset, .unset] [])) t → Steps p.tables e below (s₁.setTop (entryFrame m #[(.int p0_0), (.int p0_1), (.int p0_2), (.int p0_3)] maxLocals)) t := fun t k => castTop (ef_0 m p0_0 p0_1 p0_2 p0_3) k
  have pre1 : ∀ t, Steps p.tables e below (s₁.setTop (mkF m 6 #[.val (.int p0_0), .val (.int p0_1), .val (.int p0_2), .val (.int p0_3), .val (.int (p0_0 &&& (7 : Int32))), .unset, .unset, .unset, .unset, .unset, .unset, .unset, .unset, .unset, .unset] [])) t → Steps p.tables e below (s₁.setTop (entryFrame m #[(.int p0_0), (.int p0_1), (.int p0_2), (.int p0_3)] maxLocals)) t := fun t k => pre0 t (by
    show Steps p.tables e below (s₁.setTop (mkF m 0 #[.val (.int p0_0), .val (.int p0_1), .val (.int p0_2), .val (.int p0_3), .unset, .unset, .unset, .unset, .unset, .unset, .unset, .unset, .unset, .unset, .unset] [])) _
    refine XS.iloadN X0.here hx rfl (hb hby at_0) rfl ?_
    show Steps p.tables e below (s₁.setTop (mkF m 1 #[.val (.int p0_0), .val (.int p0_1), .val (.int p0_2), .val (.int p0_3), .unset, .unset, .unset, .unset, .unset, .unset, .unset, .unset, .unset, .unset, .unset] [(.int p0_0)])) _
    refine XS.bipush X0.here hx rfl (hb hby at_1) ?_
    show Steps p.tables e below (s₁.setTop (mkF m 3 #[.val (.int p0_0), .val (.int p0_1), .val (.int p0_2), .val (.int p0_3), .unset, .unset, .unset, .unset, .unset, .unset, .unset, .unset, .unset, .unset, .unset] [(.int (7 : Int32)), (.int p0_0)])) _
    refine XS.iand X0.here hx rfl (hb hby at_3) rfl ?_
    show Steps p.tables e below (s₁.setTop (mkF m 4 #[.val (.int p0_0), .val (.int p0_1), .val (.int p0_2), .val (.int p0_3), .unset, .unset, .unset, .unset, .unset, .unset, .unset, .unset, .unset, .unset, .unset] [(.int (p0_0 &&& (7 : Int32)))])) _
    refine XS.istore X0.here hx rfl (hb hby at_4) rfl (l' := #[.val (.int p0_0), .val (.int p0_1), .val (.int p0_2), .val (.int p0_3), .val (.int (p0_0 &&& (7 : Int32))), .unset, .unset, .unset, .unset, .unset, .unset, .unset, .unset, .unset, .unset]) rfl ?_
    exact k)
  obtain ⟨NN, hNN⟩ : ∃ z : Int32, z = (p0_0 &&& (7 : Int32)) := ⟨_, rfl⟩
  have pre2 : ∀ t, Steps p.tables e below (s₁.setTop (mkF m 6 #[.val (.int p0_0), .val (.int p0_1), .val (.int p0_2), .val (.int p0_3), .val (.int NN), .unset, .unset, .unset, .unset, .unset, .unset, .unset, .unset, .unset, .unset] [])) t → Steps p.tables e below (s₁.setTop (entryFrame m #[(.int p0_0), (.int p0_1), (.int p0_2), (.int p0_3)] maxLocals)) t := fun t k => pre1 t (castTop (by rw [hNN]) k)
  have hNN0 : 0 ≤ NN.toInt ∧ NN.toInt ≤ 7 := by
    rw [hNN]
    exact own_n _
  have hnz1 : (NN + (1 : Int32)) ≠ (0 : Int32) := by
    exact own_nz NN hNN0
  have pre3 : ∀ t, Steps p.tables e below (s₁.setTop (mkF m 17 #[.val (.int p0_0), .val (.int p0_1), .val (.int p0_2), .val (.int p0_3), .val (.int NN), .val (.int ((p0_1 &&& (2147483647 : Int32)) - ((p0_1 &&& (2147483647 : Int32)) / (NN + (1 : Int32))) * (NN + (1 : Int32)))), .unset, .unset, .unset, .unset, .unset, .unset, .unset, .unset, .unset] [])) t → Steps p.tables e below (s₁.setTop (entryFrame m #[(.int p0_0), (.int p0_1), (.int p0_2), (.int p0_3)] maxLocals)) t := fun t k => pre2 t (by
    show Steps p.tables e below (s₁.setTop (mkF m 6 #[.val (.int p0_0), .val (.int p0_1), .val (.int p0_2), .val (.int p0_3), .val (.int NN), .unset, .unset, .unset, .unset, .unset, .unset, .unset, .unset, .unset, .unset] [])) _
    refine XS.iloadN X0.here hx rfl (hb hby at_6) rfl ?_
    show Steps p.tables e below (s₁.setTop (mkF m 7 #[.val (.int p0_0), .val (.int p0_1), .val (.int p0_2), .val (.int p0_3), .val (.int NN), .unset, .unset, .unset, .unset, .unset, .unset, .unset, .unset, .unset, .unset] [(.int p0_1)])) _
    refine X0.ldcInt hx hown (mvT hZ (hVV 0 _ rfl)) (g := (mkF m 7 #[.val (.int p0_0), .val (.int p0_1), .val (.int p0_2), .val (.int p0_3), .val (.int NN), .unset, .unset, .unset, .unset, .unset, .unset, .unset, .unset, .unset, .unset] [(.int p0_1)])) rfl (hb hby at_7) _ ?_
    show Steps p.tables e below (s₁.setTop (mkF m 9 #[.val (.int p0_0), .val (.int p0_1), .val (.int p0_2), .val (.int p0_3), .val (.int NN), .unset, .unset, .unset, .unset, .unset, .unset, .unset, .unset, .unset, .unset] [(.int (2147483647 : Int32)), (.int p0_1)])) _
    refine XS.iand X0.here hx rfl (hb hby at_9) rfl ?_
    show Steps p.tables e below (s₁.setTop (mkF m 10 #[.val (.int p0_0), .val (.int p0_1), .val (.int p0_2), .val (.int p0_3), .val (.int NN), .unset, .unset, .unset, .unset, .unset, .unset, .unset, .unset, .unset, .unset] [(.int (p0_1 &&& (2147483647 : Int32)))])) _
    refine XS.iload X0.here hx rfl (hb hby at_10) rfl ?_
    show Steps p.tables e below (s₁.setTop (mkF m 12 #[.val (.int p0_0), .val (.int p0_1), .val (.int p0_2), .val (.int p0_3), .val (.int NN), .unset, .unset, .unset, .unset, .unset, .unset, .unset, .unset, .unset, .unset] [(.int NN), (.int (p0_1 &&& (2147483647 : Int32)))])) _
    refine XS.iconst X0.here hx rfl (hb hby at_12) ?_
    show Steps p.tables e below (s₁.setTop (mkF m 13 #[.val (.int p0_0), .val (.int p0_1), .val (.int p0_2), .val (.int p0_3), .val (.int NN), .unset, .unset, .unset, .unset, .unset, .unset, .unset, .unset, .unset, .unset] [(.int (1 : Int32)), (.int NN), (.int (p0_1 &&& (2147483647 : Int32)))])) _
    refine XS.iadd X0.here hx rfl (hb hby at_13) rfl ?_
    show Steps p.tables e below (s₁.setTop (mkF m 14 #[.val (.int p0_0), .val (.int p0_1), .val (.int p0_2), .val (.int p0_3), .val (.int NN), .unset, .unset, .unset, .unset, .unset, .unset, .unset, .unset, .unset, .unset] [(.int (NN + (1 : Int32))), (.int (p0_1 &&& (2147483647 : Int32)))])) _
    refine XS.irem X0.here hx rfl (hb hby at_14) rfl hnz1 ?_
    show Steps p.tables e below (s₁.setTop (mkF m 15 #[.val (.int p0_0), .val (.int p0_1), .val (.int p0_2), .val (.int p0_3), .val (.int NN), .unset, .unset, .unset, .unset, .unset, .unset, .unset, .unset, .unset, .unset] [(.int ((p0_1 &&& (2147483647 : Int32)) - ((p0_1 &&& (2147483647 : Int32)) / (NN + (1 : Int32))) * (NN + (1 : Int32))))])) _
    refine XS.istore X0.here hx rfl (hb hby at_15) rfl (l' := #[.val (.int p0_0), .val (.int p0_1), .val (.int p0_2), .val (.int p0_3), .val (.int NN), .val (.int ((p0_1 &&& (2147483647 : Int32)) - ((p0_1 &&& (2147483647 : Int32)) / (NN + (1 : Int32))) * (NN + (1 : Int32)))), .unset, .unset, .unset, .unset, .unset, .unset, .unset, .unset, .unset]) rfl ?_
    exact k)
  obtain ⟨OFF, hOFF⟩ : ∃ z : Int32, z = ((p0_1 &&& (2147483647 : Int32)) - ((p0_1 &&& (2147483647 : Int32)) / (NN + (1 : Int32))) * (NN + (1 : Int32))) := ⟨_, rfl⟩
  have pre4 : ∀ t, Steps p.tables e below (s₁.setTop (mkF m 17 #[.val (.int p0_0), .val (.int p0_1), .val (.int p0_2), .val (.int p0_3), .val (.int NN), .val (.int OFF), .unset, .unset, .unset, .unset, .unset, .unset, .unset, .unset, .unset] [])) t → Steps p.tables e below (s₁.setTop (entryFrame m #[(.int p0_0), (.int p0_1), (.int p0_2), (.int p0_3)] maxLocals)) t := fun t k => pre3 t (castTop (by rw [hOFF]) k)
  have hOFF0 : 0 ≤ OFF.toInt ∧ OFF.toInt ≤ NN.toInt := by
    rw [hOFF]
    exact own_rm _ _ hNN0
  have pre5 : ∀ t, Steps p.tables e below (s₁.setTop (mkF m 24 #[.val (.int p0_0), .val (.int p0_1), .val (.int p0_2), .val (.int p0_3), .val (.int NN), .val (.int OFF), .val (.int (NN - OFF)), .unset, .unset, .unset, .unset, .unset, .unset, .unset, .unset] [])) t → Steps p.tables e below (s₁.setTop (entryFrame m #[(.int p0_0), (.int p0_1), (.int p0_2), (.int p0_3)] maxLocals)) t := fun t k => pre4 t (by
    show Steps p.tables e below (s₁.setTop (mkF m 17 #[.val (.int p0_0), .val (.int p0_1), .val (.int p0_2), .val (.int p0_3), .val (.int NN), .val (.int OFF), .unset, .unset, .unset, .unset, .unset, .unset, .unset, .unset, .unset] [])) _
    refine XS.iload X0.here hx rfl (hb hby at_17) rfl ?_
    show Steps p.tables e below (s₁.setTop (mkF m 19 #[.val (.int p0_0), .val (.int p0_1), .val (.int p0_2), .val (.int p0_3), .val (.int NN), .val (.int OFF), .unset, .unset, .unset, .unset, .unset, .unset, .unset, .unset, .unset] [(.int NN)])) _
    refine XS.iload X0.here hx rfl (hb hby at_19) rfl ?_
    show Steps p.tables e below (s₁.setTop (mkF m 21 #[.val (.int p0_0), .val (.int p0_1), .val (.int p0_2), .val (.int p0_3), .val (.int NN), .val (.int OFF), .unset, .unset, .unset, .unset, .unset, .unset, .unset, .unset, .unset] [(.int OFF), (.int NN)])) _
    refine XS.isub X0.here hx rfl (hb hby at_21) rfl ?_
    show Steps p.tables e below (s₁.setTop (mkF m 22 #[.val (.int p0_0), .val (.int p0_1), .val (.int p0_2), .val (.int p0_3), .val (.int NN), .val (.int OFF), .unset, .unset, .unset, .unset, .unset, .unset, .unset, .unset, .unset] [(.int (NN - OFF))])) _
    refine XS.istore X0.here hx rfl (hb hby at_22) rfl (l' := #[.val (.int p0_0), .val (.int p0_1), .val (.int p0_2), .val (.int p0_3), .val (.int NN), .val (.int OFF), .val (.int (NN - OFF)), .unset, .unset, .unset, .unset, .unset, .unset, .unset, .unset]) rfl ?_
    exact k)
  obtain ⟨RM, hRM⟩ : ∃ z : Int32, z = (NN - OFF) := ⟨_, rfl⟩
  have pre6 : ∀ t, Steps p.tables e below (s₁.setTop (mkF m 24 #[.val (.int p0_0), .val (.int p0_1), .val (.int p0_2), .val (.int p0_3), .val (.int NN), .val (.int OFF), .val (.int RM), .unset, .unset, .unset, .unset, .unset, .unset, .unset, .unset] [])) t → Steps p.tables e below (s₁.setTop (entryFrame m #[(.int p0_0), (.int p0_1), (.int p0_2), (.int p0_3)] maxLocals)) t := fun t k => pre5 t (castTop (by rw [hRM]) k)
  have hRM1 : RM.toInt = NN.toInt - OFF.toInt := by
    rw [hRM]
    exact own_rem _ _ hNN0 hOFF0
  have hRM0 : 0 ≤ RM.toInt ∧ RM.toInt ≤ 7 := by
    omega
  have hnz2 : (RM + (1 : Int32)) ≠ (0 : Int32) := by
    exact own_nz RM hRM0
  have pre7 : ∀ t, Steps p.tables e below (s₁.setTop (mkF m 35 #[.val (.int p0_0), .val (.int p0_1), .val (.int p0_2), .val (.int p0_3), .val (.int NN), .val (.int OFF), .val (.int RM), .val (.int ((p0_2 &&& (2147483647 : Int32)) - ((p0_2 &&& (2147483647 : Int32)) / (RM + (1 : Int32))) * (RM + (1 : Int32)))), .unset, .unset, .unset, .unset, .unset, .unset, .unset] [])) t → Steps p.tables e below (s₁.setTop (entryFrame m #[(.int p0_0), (.int p0_1), (.int p0_2), (.int p0_3)] maxLocals)) t := fun t k => pre6 t (by
    show Steps p.tables e below (s₁.setTop (mkF m 24 #[.val (.int p0_0), .val (.int p0_1), .val (.int p0_2), .val (.int p0_3), .val (.int NN), .val (.int OFF), .val (.int RM), .unset, .unset, .unset, .unset, .unset, .unset, .unset, .unset] [])) _
    refine XS.iloadN X0.here hx rfl (hb hby at_24) rfl ?_
    show Steps p.tables e below (s₁.setTop (mkF m 25 #[.val (.int p0_0), .val (.int p0_1), .val (.int p0_2), .val (.int p0_3), .val (.int NN), .val (.int OFF), .val (.int RM), .unset, .unset, .unset, .unset, .unset, .unset, .unset, .unset] [(.int p0_2)])) _
    refine X0.ldcInt hx hown (mvT hZ (hVV 0 _ rfl)) (g := (mkF m 25 #[.val (.int p0_0), .val (.int p0_1), .val (.int p0_2), .val (.int p0_3), .val (.int NN), .val (.int OFF), .val (.int RM), .unset, .unset, .unset, .unset, .unset, .unset, .unset, .unset] [(.int p0_2)])) rfl (hb hby at_25) _ ?_
    show Steps p.tables e below (s₁.setTop (mkF m 27 #[.val (.int p0_0), .val (.int p0_1), .val (.int p0_2), .val (.int p0_3), .val (.int NN), .val (.int OFF), .val (.int RM), .unset, .unset, .unset, .unset, .unset, .unset, .unset, .unset] [(.int (2147483647 : Int32)), (.int p0_2)])) _
    refine XS.iand X0.here hx rfl (hb hby at_27) rfl ?_
    show Steps p.tables e below (s₁.setTop (mkF m 28 #[.val (.int p0_0), .val (.int p0_1), .val (.int p0_2), .val (.int p0_3), .val (.int NN), .val (.int OFF), .val (.int RM), .unset, .unset, .unset, .unset, .unset, .unset, .unset, .unset] [(.int (p0_2 &&& (2147483647 : Int32)))])) _
    refine XS.iload X0.here hx rfl (hb hby at_28) rfl ?_
    show Steps p.tables e below (s₁.setTop (mkF m 30 #[.val (.int p0_0), .val (.int p0_1), .val (.int p0_2), .val (.int p0_3), .val (.int NN), .val (.int OFF), .val (.int RM), .unset, .unset, .unset, .unset, .unset, .unset, .unset, .unset] [(.int RM), (.int (p0_2 &&& (2147483647 : Int32)))])) _
    refine XS.iconst X0.here hx rfl (hb hby at_30) ?_
    show Steps p.tables e below (s₁.setTop (mkF m 31 #[.val (.int p0_0), .val (.int p0_1), .val (.int p0_2), .val (.int p0_3), .val (.int NN), .val (.int OFF), .val (.int RM), .unset, .unset, .unset, .unset, .unset, .unset, .unset, .unset] [(.int (1 : Int32)), (.int RM), (.int (p0_2 &&& (2147483647 : Int32)))])) _
    refine XS.iadd X0.here hx rfl (hb hby at_31) rfl ?_
    show Steps p.tables e below (s₁.setTop (mkF m 32 #[.val (.int p0_0), .val (.int p0_1), .val (.int p0_2), .val (.int p0_3), .val (.int NN), .val (.int OFF), .val (.int RM), .unset, .unset, .unset, .unset, .unset, .unset, .unset, .unset] [(.int (RM + (1 : Int32))), (.int (p0_2 &&& (2147483647 : Int32)))])) _
    refine XS.irem X0.here hx rfl (hb hby at_32) rfl hnz2 ?_
    show Steps p.tables e below (s₁.setTop (mkF m 33 #[.val (.int p0_0), .val (.int p0_1), .val (.int p0_2), .val (.int p0_3), .val (.int NN), .val (.int OFF), .val (.int RM), .unset, .unset, .unset, .unset, .unset, .unset, .unset, .unset] [(.int ((p0_2 &&& (2147483647 : Int32)) - ((p0_2 &&& (2147483647 : Int32)) / (RM + (1 : Int32))) * (RM + (1 : Int32))))])) _
    refine XS.istore X0.here hx rfl (hb hby at_33) rfl (l' := #[.val (.int p0_0), .val (.int p0_1), .val (.int p0_2), .val (.int p0_3), .val (.int NN), .val (.int OFF), .val (.int RM), .val (.int ((p0_2 &&& (2147483647 : Int32)) - ((p0_2 &&& (2147483647 : Int32)) / (RM + (1 : Int32))) * (RM + (1 : Int32)))), .unset, .unset, .unset, .unset, .unset, .unset, .unset]) rfl ?_
    exact k)
  obtain ⟨KK, hKK⟩ : ∃ z : Int32, z = ((p0_2 &&& (2147483647 : Int32)) - ((p0_2 &&& (2147483647 : Int32)) / (RM + (1 : Int32))) * (RM + (1 : Int32))) := ⟨_, rfl⟩
  have pre8 : ∀ t, Steps p.tables e below (s₁.setTop (mkF m 35 #[.val (.int p0_0), .val (.int p0_1), .val (.int p0_2), .val (.int p0_3), .val (.int NN), .val (.int OFF), .val (.int RM), .val (.int KK), .unset, .unset, .unset, .unset, .unset, .unset, .unset] [])) t → Steps p.tables e below (s₁.setTop (entryFrame m #[(.int p0_0), (.int p0_1), (.int p0_2), (.int p0_3)] maxLocals)) t := fun t k => pre7 t (castTop (by rw [hKK]) k)
  have hKK0 : 0 ≤ KK.toInt ∧ KK.toInt ≤ RM.toInt := by
    rw [hKK]
    exact own_rm _ _ hRM0
  have pre10 : ∀ t, Steps p.tables e below (s₁.setTop (mkF m 38 #[.val (.int p0_0), .val (.int p0_1), .val (.int p0_2), .val (.int p0_3), .val (.int NN), .val (.int OFF), .val (.int RM), .val (.int KK), .unset, .unset, .unset, .unset, .unset, .unset, .unset] [(.int (p0_3 &&& (1 : Int32)))])) t → Steps p.tables e below (s₁.setTop (entryFrame m #[(.int p0_0), (.int p0_1), (.int p0_2), (.int p0_3)] maxLocals)) t := fun t k => pre8 t (by
    show Steps p.tables e below (s₁.setTop (mkF m 35 #[.val (.int p0_0), .val (.int p0_1), .val (.int p0_2), .val (.int p0_3), .val (.int NN), .val (.int OFF), .val (.int RM), .val (.int KK), .unset, .unset, .unset, .unset, .unset, .unset, .unset] [])) _
    refine XS.iloadN X0.here hx rfl (hb hby at_35) rfl ?_
    show Steps p.tables e below (s₁.setTop (mkF m 36 #[.val (.int p0_0), .val (.int p0_1), .val (.int p0_2), .val (.int p0_3), .val (.int NN), .val (.int OFF), .val (.int RM), .val (.int KK), .unset, .unset, .unset, .unset, .unset, .unset, .unset] [(.int p0_3)])) _
    refine XS.iconst X0.here hx rfl (hb hby at_36) ?_
    show Steps p.tables e below (s₁.setTop (mkF m 37 #[.val (.int p0_0), .val (.int p0_1), .val (.int p0_2), .val (.int p0_3), .val (.int NN), .val (.int OFF), .val (.int RM), .val (.int KK), .unset, .unset, .unset, .unset, .unset, .unset, .unset] [(.int (1 : Int32)), (.int p0_3)])) _
    refine XS.iand X0.here hx rfl (hb hby at_37) rfl ?_
    exact k)
  have pre11 : ∀ t, Steps p.tables e below (s₁.setTop (mkF m 46 #[.val (.int p0_0), .val (.int p0_1), .val (.int p0_2), .val (.int p0_3), .val (.int NN), .val (.int OFF), .val (.int RM), .val (.int KK), .unset, .unset, .unset, .unset, .unset, .unset, .unset] [(.int (bI (¬ ((p0_3 &&& (1 : Int32)) = (0 : Int32)))))])) t → Steps p.tables e below (s₁.setTop (entryFrame m #[(.int p0_0), (.int p0_1), (.int p0_2), (.int p0_3)] maxLocals)) t := fun t k => pre10 t (by
    by_cases hc9 : (p0_3 &&& (1 : Int32)) = (0 : Int32)
    · show Steps p.tables e below (s₁.setTop (mkF m 38 #[.val (.int p0_0), .val (.int p0_1), .val (.int p0_2), .val (.int p0_3), .val (.int NN), .val (.int OFF), .val (.int RM), .val (.int KK), .unset, .unset, .unset, .unset, .unset, .unset, .unset] [(.int (p0_3 &&& (1 : Int32)))])) _
      refine XS.ifYes X0.here hx rfl (pc0 := 38) (pc' := 45) rfl (hb hby at_38) rfl ((if0 _ _).trans (teq hc9).1) (by decide) (by decide) ?_
      show Steps p.tables e below (s₁.setTop (mkF m 45 #[.val (.int p0_0), .val (.int p0_1), .val (.int p0_2), .val (.int p0_3), .val (.int NN), .val (.int OFF), .val (.int RM), .val (.int KK), .unset, .unset, .unset, .unset, .unset, .unset, .unset] [])) _
      refine XS.iconst X0.here hx rfl (hb hby at_45) ?_
      have q12 : (bI (¬ ((p0_3 &&& (1 : Int32)) = (0 : Int32)))) = (0 : Int32) := (bI_f (fun q => q hc9))
      exact castTop (g := (mkF m 46 #[.val (.int p0_0), .val (.int p0_1), .val (.int p0_2), .val (.int p0_3), .val (.int NN), .val (.int OFF), .val (.int RM), .val (.int KK), .unset, .unset, .unset, .unset, .unset, .unset, .unset] [(.int (0 : Int32))])) (g' := (mkF m 46 #[.val (.int p0_0), .val (.int p0_1), .val (.int p0_2), .val (.int p0_3), .val (.int NN), .val (.int OFF), .val (.int RM), .val (.int KK), .unset, .unset, .unset, .unset, .unset, .unset, .unset] [(.int (bI (¬ ((p0_3 &&& (1 : Int32)) = (0 : Int32)))))])) (by simp only [q12]) k
    · show Steps p.tables e below (s₁.setTop (mkF m 38 #[.val (.int p0_0), .val (.int p0_1), .val (.int p0_2), .val (.int p0_3), .val (.int NN), .val (.int OFF), .val (.int RM), .val (.int KK), .unset, .unset, .unset, .unset, .unset, .unset, .unset] [(.int (p0_3 &&& (1 : Int32)))])) _
      refine XS.ifNo X0.here hx rfl (hb hby at_38) rfl ((if0 _ _).trans (feq hc9).1) ?_
      show Steps p.tables e below (s₁.setTop (mkF m 41 #[.val (.int p0_0), .val (.int p0_1), .val (.int p0_2), .val (.int p0_3), .val (.int NN), .val (.int OFF), .val (.int RM), .val (.int KK), .unset, .unset, .unset, .unset, .unset, .unset, .unset] [])) _
      refine XS.iconst X0.here hx rfl (hb hby at_41) ?_
      show Steps p.tables e below (s₁.setTop (mkF m 42 #[.val (.int p0_0), .val (.int p0_1), .val (.int p0_2), .val (.int p0_3), .val (.int NN), .val (.int OFF), .val (.int RM), .val (.int KK), .unset, .unset, .unset, .unset, .unset, .unset, .unset] [(.int (1 : Int32))])) _
      refine XS.goto X0.here hx rfl (pc0 := 42) (pc' := 46) rfl (hb hby at_42) (by decide) (by decide) ?_
      have q13 : (bI (¬ ((p0_3 &&& (1 : Int32)) = (0 : Int32)))) = (1 : Int32) := (bI_t hc9)
      exact castTop (g := (mkF m 46 #[.val (.int p0_0), .val (.int p0_1), .val (.int p0_2), .val (.int p0_3), .val (.int NN), .val (.int OFF), .val (.int RM), .val (.int KK), .unset, .unset, .unset, .unset, .unset, .unset, .unset] [(.int (1 : Int32))])) (g' := (mkF m 46 #[.val (.int p0_0), .val (.int p0_1), .val (.int p0_2), .val (.int p0_3), .val (.int NN), .val (.int OFF), .val (.int RM), .val (.int KK), .unset, .unset, .unset, .unset, .unset, .unset, .unset] [(.int (bI (¬ ((p0_3 &&& (1 : Int32)) = (0 : Int32)))))])) (by simp only [q13]) k)
  obtain ⟨T14, h14, k14, X14, e14, E14, A14, B14, st14⟩ := newPE X0 hx hZ (hVV 1 _ rfl) e0 (g := (mkF m 50 #[.val (.int p0_0), .val (.int p0_1), .val (.int p0_2), .val (.int p0_3), .val (.int NN), .val (.int OFF), .val (.int RM), .val (.int KK), .val (.int (bI (¬ ((p0_3 &&& (1 : Int32)) = (0 : Int32))))), .unset, .unset, .unset, .unset, .unset, .unset] [(.int NN)])) rfl (hb hby at_50) rfl (own_neg _ hNN0.1) (cap := 7) (own_cap _ hNN0.1 hNN0.2) (by decide) (by decide) (by decide) (ad := "[B") (by decide)
  obtain ⟨b14, g14⟩ : ∃ z, z = h0.size := ⟨_, rfl⟩
  rw [← g14] at A14 B14 st14
  have gz14 : n0 ≤ b14 := Nat.le_trans Z0 (Nat.le_of_eq g14.symm)
  have pre15 : ∀ t, Steps p.tables e below (T14.setTop (mkF m 52 #[.val (.int p0_0), .val (.int p0_1), .val (.int p0_2), .val (.int p0_3), .val (.int NN), .val (.int OFF), .val (.int RM), .val (.int KK), .val (.int (bI (¬ ((p0_3 &&& (1 : Int32)) = (0 : Int32))))), .unset, .unset, .unset, .unset, .unset, .unset] [(.ref b14)])) t → Steps p.tables e below (s₁.setTop (entryFrame m #[(.int p0_0), (.int p0_1), (.int p0_2), (.int p0_3)] maxLocals)) t := fun t k => pre11 t (by
    show Steps p.tables e below (s₁.setTop (mkF m 46 #[.val (.int p0_0), .val (.int p0_1), .val (.int p0_2), .val (.int p0_3), .val (.int NN), .val (.int OFF), .val (.int RM), .val (.int KK), .unset, .unset, .unset, .unset, .unset, .unset, .unset] [(.int (bI (¬ ((p0_3 &&& (1 : Int32)) = (0 : Int32)))))])) _
    refine XS.istore X0.here hx rfl (hb hby at_46) rfl (l' := #[.val (.int p0_0), .val (.int p0_1), .val (.int p0_2), .val (.int p0_3), .val (.int NN), .val (.int OFF), .val (.int RM), .val (.int KK), .val (.int (bI (¬ ((p0_3 &&& (1 : Int32)) = (0 : Int32))))), .unset, .unset, .unset, .unset, .unset, .unset]) rfl ?_
    show Steps p.tables e below (s₁.setTop (mkF m 48 #[.val (.int p0_0), .val (.int p0_1), .val (.int p0_2), .val (.int p0_3), .val (.int NN), .val (.int OFF), .val (.int RM), .val (.int KK), .val (.int (bI (¬ ((p0_3 &&& (1 : Int32)) = (0 : Int32))))), .unset, .unset, .unset, .unset, .unset, .unset] [])) _
    refine XS.iload X0.here hx rfl (hb hby at_48) rfl ?_
    show Steps p.tables e below (s₁.setTop (mkF m 50 #[.val (.int p0_0), .val (.int p0_1), .val (.int p0_2), .val (.int p0_3), .val (.int NN), .val (.int OFF), .val (.int RM), .val (.int KK), .val (.int (bI (¬ ((p0_3 &&& (1 : Int32)) = (0 : Int32))))), .unset, .unset, .unset, .unset, .unset, .unset] [(.int NN)])) _
    refine st14 _ ?_
    exact k)
  have z16 := Nat.le_trans Z0 E14.1
  have V17 : Arv Z h14 b14 k14 .byte NN [] (.int (0 : Int32)) := Arv.new A14 (own_neg _ hNN0.1)
  obtain ⟨T18, h18, X18, e18, E18, A18, D18, -, st18⟩ := newO X14 hx hZ hown (hVV 2 _ rfl) (hVV 3 _ rfl) (hVV 4 _ rfl) e14 (g := (mkF m 54 #[.val (.int p0_0), .val (.int p0_1), .val (.int p0_2), .val (.int p0_3), .val (.int NN), .val (.int OFF), .val (.int RM), .val (.int KK), .val (.int (bI (¬ ((p0_3 &&& (1 : Int32)) = (0 : Int32))))), .val (.ref b14), .unset, .unset, .unset, .unset, .unset] [])) rfl (hb hby at_54) (by decide) (by decide)
  obtain ⟨b18, g18⟩ : ∃ z, z = h14.size := ⟨_, rfl⟩
  rw [← g18] at A18 D18 st18
  have gz18 : n0 ≤ b18 := Nat.le_trans z16 (Nat.le_of_eq g18.symm)
  have ne19 : b14 ≠ b18 := Nat.ne_of_lt (Nat.lt_of_lt_of_le B14.lt (Nat.le_of_eq g18.symm))
  have pre20 : ∀ t, Steps p.tables e below (T18.setTop (mkF m 57 #[.val (.int p0_0), .val (.int p0_1), .val (.int p0_2), .val (.int p0_3), .val (.int NN), .val (.int OFF), .val (.int RM), .val (.int KK), .val (.int (bI (¬ ((p0_3 &&& (1 : Int32)) = (0 : Int32))))), .val (.ref b14), .unset, .unset, .unset, .unset, .unset] [(.ref b18)])) t → Steps p.tables e below (s₁.setTop (entryFrame m #[(.int p0_0), (.int p0_1), (.int p0_2), (.int p0_3)] maxLocals)) t := fun t k => pre15 t (by
    show Steps p.tables e below (T14.setTop (mkF m 52 #[.val (.int p0_0), .val (.int p0_1), .val (.int p0_2), .val (.int p0_3), .val (.int NN), .val (.int OFF), .val (.int RM), .val (.int KK), .val (.int (bI (¬ ((p0_3 &&& (1 : Int32)) = (0 : Int32))))), .unset, .unset, .unset, .unset, .unset, .unset] [(.ref b14)])) _
    refine XS.astore X14.here hx rfl (hb hby at_52) rfl rfl (l' := #[.val (.int p0_0), .val (.int p0_1), .val (.int p0_2), .val (.int p0_3), .val (.int NN), .val (.int OFF), .val (.int RM), .val (.int KK), .val (.int (bI (¬ ((p0_3 &&& (1 : Int32)) = (0 : Int32))))), .val (.ref b14), .unset, .unset, .unset, .unset, .unset]) rfl ?_
    show Steps p.tables e below (T14.setTop (mkF m 54 #[.val (.int p0_0), .val (.int p0_1), .val (.int p0_2), .val (.int p0_3), .val (.int NN), .val (.int OFF), .val (.int RM), .val (.int KK), .val (.int (bI (¬ ((p0_3 &&& (1 : Int32)) = (0 : Int32))))), .val (.ref b14), .unset, .unset, .unset, .unset, .unset] [])) _
    refine st18 _ ?_
    exact k)
  have f21 := B14.ext E18
  have f22 := V17.ext E18
  have z23 := Nat.le_trans z16 E18.1
  have f24 : Fld Z h18 b18 "com/example/libmosaic/libmosaic/encoding/ByteReader" "bytes" "[B" .null := D18 (Or.inr (hVV 12 _ rfl)) (ty := (.array .byte)) (by decide)
  have f25 : Fld Z h18 b18 "com/example/libmosaic/libmosaic/encoding/ByteReader" "position" "I" (.int (0 : Int32)) := D18 (Or.inl (hVV 14 _ rfl)) (ty := .int) (by decide)
  have f26 : Fld Z h18 b18 "com/example/libmosaic/libmosaic/encoding/ByteReader" "complement" "I" (.int (0 : Int32)) := D18 (Or.inl (hVV 43 _ rfl)) (ty := .int) (by decide)
  have hq28 : ¬ (OFF < (0 : Int32)) := by
    exact own_neg _ hOFF0.1
  have hq29 : ¬ (NN < OFF) := by
    rw [Int32.lt_iff_toInt_lt]
    omega
  obtain ⟨_, _, ⟨T27, L27, k27, n27⟩, -, X27, ⟨Lc27, hQ27, l27, y27, z27⟩, st27⟩ := X18.specialBack hx (y := (⟨"com/example/libmosaic/libmosaic/encoding/ByteReader", "<init>", "([BI)V"⟩ : MethodName)) rfl hown (mvT hZ (hVV 5 _ rfl)) (mvT hZ (hVV 6 _ rfl)) (mvT hZ (hVV 7 _ rfl)) (by decide) (backOf (W := 1) (rm1 l Z a0 hw [] b18 b14 OFF k14 NN .null (0 : Int32) (0 : Int32) h18 n0 z23 f22 f21 ne19 hq28 hq29 A18 f24 f25 f26 gz18) hZ (hVV 7 _ rfl) (hVV 4 _ rfl) (by decide) (by decide)) (g := (mkF m 62 #[.val (.int p0_0), .val (.int p0_1), .val (.int p0_2), .val (.int p0_3), .val (.int NN), .val (.int OFF), .val (.int RM), .val (.int KK), .val (.int (bI (¬ ((p0_3 &&& (1 : Int32)) = (0 : Int32))))), .val (.ref b14), .unset, .unset, .unset, .unset, .unset] [(.int OFF), (.ref b14), (.ref b18), (.ref b18)])) rfl (by rw [hml]; rfl) (Steps.refl _) (a := b18) (argsL := [(.ref b14), (.int OFF)]) (rest := [(.ref b18)]) (lenOf pd_4 rfl) rfl (by show 2 * 0 + _ ≤ _; exact Nat.le_of_eq rfl) (hb hby at_62) (fun _ _ => ⟨rfl, e18, (by decide : 2 + 0 ≤ _), (by decide : 10 + 0 ≤ _)⟩)
  dsimp only [Pt.U, Pt.locs, Pt.cells, Pt.slots] at X27 l27 y27 z27 st27 hQ27
  subst l27 y27 z27
  obtain ⟨rfl, N27q, K27, r27_0, r27_1, r27_2, r27_3⟩ := hQ27
  have N30 := Fr.app N0 N27q
  have pre31 : ∀ t, Steps p.tables e below (T27.setTop (mkF m 65 #[.val (.int p0_0), .val (.int p0_1), .val (.int p0_2), .val (.int p0_3), .val (.int NN), .val (.int OFF), .val (.int RM), .val (.int KK), .val (.int (bI (¬ ((p0_3 &&& (1 : Int32)) = (0 : Int32))))), .val (.ref b14), .unset, .unset, .unset, .unset, .unset] [(.ref b18)])) t → Steps p.tables e below (s₁.setTop (entryFrame m #[(.int p0_0), (.int p0_1), (.int p0_2), (.int p0_3)] maxLocals)) t := fun t k => pre20 t (by
    show Steps p.tables e below (T18.setTop (mkF m 57 #[.val (.int p0_0), .val (.int p0_1), .val (.int p0_2), .val (.int p0_3), .val (.int NN), .val (.int OFF), .val (.int RM), .val (.int KK), .val (.int (bI (¬ ((p0_3 &&& (1 : Int32)) = (0 : Int32))))), .val (.ref b14), .unset, .unset, .unset, .unset, .unset] [(.ref b18)])) _
    refine XS.dup X18.here hx rfl (hb hby at_57) rfl rfl ?_
    show Steps p.tables e below (T18.setTop (mkF m 58 #[.val (.int p0_0), .val (.int p0_1), .val (.int p0_2), .val (.int p0_3), .val (.int NN), .val (.int OFF), .val (.int RM), .val (.int KK), .val (.int (bI (¬ ((p0_3 &&& (1 : Int32)) = (0 : Int32))))), .val (.ref b14), .unset, .unset, .unset, .unset, .unset] [(.ref b18), (.ref b18)])) _
    refine XS.aload X18.here hx rfl (hb hby at_58) rfl rfl ?_
    show Steps p.tables e below (T18.setTop (mkF m 60 #[.val (.int p0_0), .val (.int p0_1), .val (.int p0_2), .val (.int p0_3), .val (.int NN), .val (.int OFF), .val (.int RM), .val (.int KK), .val (.int (bI (¬ ((p0_3 &&& (1 : Int32)) = (0 : Int32))))), .val (.ref b14), .unset, .unset, .unset, .unset, .unset] [(.ref b14), (.ref b18), (.ref b18)])) _
    refine XS.iload X18.here hx rfl (hb hby at_60) rfl ?_
    show Steps p.tables e below (T18.setTop (mkF m 62 #[.val (.int p0_0), .val (.int p0_1), .val (.int p0_2), .val (.int p0_3), .val (.int NN), .val (.int OFF), .val (.int RM), .val (.int KK), .val (.int (bI (¬ ((p0_3 &&& (1 : Int32)) = (0 : Int32))))), .val (.ref b14), .unset, .unset, .unset, .unset, .unset] [(.int OFF), (.ref b14), (.ref b18), (.ref b18)])) _
    refine st27.trans ?_
    exact k)
  have f32 := f21.keep K27
  have f33 := f22.keep K27 (ninS ne19 nin0)
  have f34 := A18.keep K27
  have z35 := Nat.le_trans z23 K27.1
  obtain ⟨cq36, kq36, q36a, q36b, q36c⟩ := isOf hZ rfl r27_0
  obtain ⟨_, _, ⟨T36, L36, k36, n36⟩, -, X36, ⟨Lc36, hQ36, l36, y36, z36⟩, st36⟩ := X27.virtualBack hx (y := (⟨"com/example/libmosaic/libmosaic/encoding/ByteReader", "atEnd", "()Z"⟩ : MethodName)) (z := (⟨"com/example/libmosaic/libmosaic/encoding/ByteReader", "atEnd", "()Z"⟩ : MethodName)) hown (mvT hZ (hVV 15 _ rfl)) (mvT hZ (hVV 16 _ rfl)) (notFace_of_selects (args := #[]) (mvT hZ (hVV 18 _ rfl))) (mvT hZ (hVV 18 _ rfl)) (mvT hZ (hVV 17 _ rfl)) (by decide) (backOf (W := 0) (rm3 l Z a0 hw [] b18 b14 OFF k14 NN T27.heap n0 z35 r27_2 r27_3 f33 f32 ne19) hZ (hVV 19 _ rfl) (hVV 4 _ rfl) (by decide) (by decide)) q36a q36c (g := (mkF m 69 #[.val (.int p0_0), .val (.int p0_1), .val (.int p0_2), .val (.int p0_3), .val (.int NN), .val (.int OFF), .val (.int RM), .val (.int KK), .val (.int (bI (¬ ((p0_3 &&& (1 : Int32)) = (0 : Int32))))), .val (.ref b14), .val (.ref b18), .unset, .unset, .unset, .unset] [(.ref b18)])) rfl (by rw [hml]; rfl) (Steps.refl _) (argsL := []) (rest := []) (lenOf pd_5 rfl) rfl (by show 2 * 0 + _ ≤ _; exact Nat.le_of_eq rfl) (hb hby at_69) (fun _ _ => ⟨rfl, rfl, (by decide : 2 + 0 ≤ _), (by decide : 10 + 0 ≤ _)⟩)
  dsimp only [Pt.U, Pt.locs, Pt.cells, Pt.slots] at X36 l36 y36 z36 st36 hQ36
  subst l36 y36 z36
  obtain ⟨rfl, N36q, e36⟩ := hQ36
  have N37 := Fr.app N30 N36q
  have pre38 : ∀ t, Steps p.tables e below (T36.setTop (mkF m 72 #[.val (.int p0_0), .val (.int p0_1), .val (.int p0_2), .val (.int p0_3), .val (.int NN), .val (.int OFF), .val (.int RM), .val (.int KK), .val (.int (bI (¬ ((p0_3 &&& (1 : Int32)) = (0 : Int32))))), .val (.ref b14), .val (.ref b18), .unset, .unset, .unset, .unset] [(.int (bI (OFF = NN)))])) t → Steps p.tables e below (s₁.setTop (entryFrame m #[(.int p0_0), (.int p0_1), (.int p0_2), (.int p0_3)] maxLocals)) t := fun t k => pre31 t (by
    show Steps p.tables e below (T27.setTop (mkF m 65 #[.val (.int p0_0), .val (.int p0_1), .val (.int p0_2), .val (.int p0_3), .val (.int NN), .val (.int OFF), .val (.int RM), .val (.int KK), .val (.int (bI (¬ ((p0_3 &&& (1 : Int32)) = (0 : Int32))))), .val (.ref b14), .unset, .unset, .unset, .unset, .unset] [(.ref b18)])) _
    refine XS.astore X27.here hx rfl (hb hby at_65) rfl rfl (l' := #[.val (.int p0_0), .val (.int p0_1), .val (.int p0_2), .val (.int p0_3), .val (.int NN), .val (.int OFF), .val (.int RM), .val (.int KK), .val (.int (bI (¬ ((p0_3 &&& (1 : Int32)) = (0 : Int32))))), .val (.ref b14), .val (.ref b18), .unset, .unset, .unset, .unset]) rfl ?_
    show Steps p.tables e below (T27.setTop (mkF m 67 #[.val (.int p0_0), .val (.int p0_1), .val (.int p0_2), .val (.int p0_3), .val (.int NN), .val (.int OFF), .val (.int RM), .val (.int KK), .val (.int (bI (¬ ((p0_3 &&& (1 : Int32)) = (0 : Int32))))), .val (.ref b14), .val (.ref b18), .unset, .unset, .unset, .unset] [])) _
    refine XS.aload X27.here hx rfl (hb hby at_67) rfl rfl ?_
    show Steps p.tables e below (T27.setTop (mkF m 69 #[.val (.int p0_0), .val (.int p0_1), .val (.int p0_2), .val (.int p0_3), .val (.int NN), .val (.int OFF), .val (.int RM), .val (.int KK), .val (.int (bI (¬ ((p0_3 &&& (1 : Int32)) = (0 : Int32))))), .val (.ref b14), .val (.ref b18), .unset, .unset, .unset, .unset] [(.ref b18)])) _
    refine st36.trans ?_
    exact k)
  by_cases hc41 : ¬ ((p0_3 &&& (1 : Int32)) = (0 : Int32))
  · by_cases hc43 : KK < (1 : Int32)
    · obtain ⟨b45, g45⟩ : ∃ z, z = T27.heap.size := ⟨_, rfl⟩
      have gz45 : n0 ≤ b45 := Nat.le_trans z35 (Nat.le_of_eq g45.symm)
      have ne46 : b14 ≠ b45 := Nat.ne_of_lt (Nat.lt_of_lt_of_le f32.lt (Nat.le_of_eq g45.symm))
      have ne47 : b18 ≠ b45 := Nat.ne_of_lt (Nat.lt_of_lt_of_le r27_0.lt (Nat.le_of_eq g45.symm))
      have hq48 : 0 ≤ OFF.toInt := by
        exact hOFF0.1
      have hq49 : 0 ≤ KK.toInt := by
        exact hKK0.1
      have hq50 : OFF.toInt + KK.toInt ≤ NN.toInt := by
        omega
      have hq51 : NN.toInt ≤ 7 := by
        exact hNN0.2
      obtain ⟨cq44, kq44, q44a, q44b, q44c⟩ := isOf hZ e36 r27_0
      obtain ⟨_, _, ⟨T44, L44, k44, n44⟩, -, X44, ⟨Lc44, hQ44, l44, y44, z44⟩, st44⟩ := X36.virtualBack hx (y := (⟨"com/example/libmosaic/libmosaic/encoding/ByteReader", "read", "(I)[B"⟩ : MethodName)) (z := (⟨"com/example/libmosaic/libmosaic/encoding/ByteReader", "read", "(I)[B"⟩ : MethodName)) hown (mvT hZ (hVV 20 _ rfl)) (mvT hZ (hVV 21 _ rfl)) (notFace_of_selects (args := #[]) (mvT hZ (hVV 23 _ rfl))) (mvT hZ (hVV 23 _ rfl)) (mvT hZ (hVV 22 _ rfl)) (by decide) (backOf (W := 0) (rm4 l Z a0 hw [] b18 KK b14 OFF k14 NN b45 T27.heap n0 z35 r27_2 r27_3 r27_1 f33 f32 g45 hq48 hq49 hq50 hq51 ne19 r27_0 gz18) hZ (hVV 24 _ rfl) (hVV 4 _ rfl) (by decide) (by decide)) q44a q44c (g := (mkF m 108 #[.val (.int p0_0), .val (.int p0_1), .val (.int p0_2), .val (.int p0_3), .val (.int NN), .val (.int OFF), .val (.int RM), .val (.int KK), .val (.int (bI (¬ ((p0_3 &&& (1 : Int32)) = (0 : Int32))))), .val (.ref b14), .val (.ref b18), .val (.int (bI (OFF = NN))), .unset, .unset, .unset] [(.int KK), (.ref b18)])) rfl (by rw [hml]; rfl) (Steps.refl _) (argsL := [(.int KK)]) (rest := []) (lenOf pd_6 rfl) rfl (by show 2 * 0 + _ ≤ _; exact Nat.le_of_eq rfl) (hb hby at_108) (fun _ _ => ⟨rfl, e36, (by decide : 2 + 1 ≤ _), (by decide : 10 + 7 ≤ _)⟩)
      dsimp only [Pt.U, Pt.locs, Pt.cells, Pt.slots] at X44 l44 y44 z44 st44 hQ44
      subst l44 y44 z44
      obtain ⟨rfl, N44q, K44, r44_0, r44_1, r44_2, r44_3⟩ := hQ44
      have N52 := Fr.app N37 N44q
      have pre53 : ∀ t, Steps p.tables e below (T44.setTop (mkF m 111 #[.val (.int p0_0), .val (.int p0_1), .val (.int p0_2), .val (.int p0_3), .val (.int NN), .val (.int OFF), .val (.int RM), .val (.int KK), .val (.int (bI (¬ ((p0_3 &&& (1 : Int32)) = (0 : Int32))))), .val (.ref b14), .val (.ref b18), .val (.int (bI (OFF = NN))), .unset, .unset, .unset] [(.ref b45)])) t → Steps p.tables e below (s₁.setTop (entryFrame m #[(.int p0_0), (.int p0_1), (.int p0_2), (.int p0_3)] maxLocals)) t := fun t k => pre38 t (by
        show Steps p.tables e below (T36.setTop (mkF m 72 #[.val (.int p0_0), .val (.int p0_1), .val (.int p0_2), .val (.int p0_3), .val (.int NN), .val (.int OFF), .val (.int RM), .val (.int KK), .val (.int (bI (¬ ((p0_3 &&& (1 : Int32)) = (0 : Int32))))), .val (.ref b14), .val (.ref b18), .unset, .unset, .unset, .unset] [(.int (bI (OFF = NN)))])) _
        refine XS.istore X36.here hx rfl (hb hby at_72) rfl (l' := #[.val (.int p0_0), .val (.int p0_1), .val (.int p0_2), .val (.int p0_3), .val (.int NN), .val (.int OFF), .val (.int RM), .val (.int KK), .val (.int (bI (¬ ((p0_3 &&& (1 : Int32)) = (0 : Int32))))), .val (.ref b14), .val (.ref b18), .val (.int (bI (OFF = NN))), .unset, .unset, .unset]) rfl ?_
        show Steps p.tables e below (T36.setTop (mkF m 74 #[.val (.int p0_0), .val (.int p0_1), .val (.int p0_2), .val (.int p0_3), .val (.int NN), .val (.int OFF), .val (.int RM), .val (.int KK), .val (.int (bI (¬ ((p0_3 &&& (1 : Int32)) = (0 : Int32))))), .val (.ref b14), .val (.ref b18), .val (.int (bI (OFF = NN))), .unset, .unset, .unset] [])) _
        refine XS.iload X36.here hx rfl (hb hby at_74) rfl ?_
        show Steps p.tables e below (T36.setTop (mkF m 76 #[.val (.int p0_0), .val (.int p0_1), .val (.int p0_2), .val (.int p0_3), .val (.int NN), .val (.int OFF), .val (.int RM), .val (.int KK), .val (.int (bI (¬ ((p0_3 &&& (1 : Int32)) = (0 : Int32))))), .val (.ref b14), .val (.ref b18), .val (.int (bI (OFF = NN))), .unset, .unset, .unset] [(.int (bI (¬ ((p0_3 &&& (1 : Int32)) = (0 : Int32)))))])) _
        refine XS.ifNo X36.here hx rfl (hb hby at_76) rfl ((if0 _ _).trans (feq (bI_n hc41)).1) ?_
        show Steps p.tables e below (T36.setTop (mkF m 79 #[.val (.int p0_0), .val (.int p0_1), .val (.int p0_2), .val (.int p0_3), .val (.int NN), .val (.int OFF), .val (.int RM), .val (.int KK), .val (.int (bI (¬ ((p0_3 &&& (1 : Int32)) = (0 : Int32))))), .val (.ref b14), .val (.ref b18), .val (.int (bI (OFF = NN))), .unset, .unset, .unset] [])) _
        refine XS.iload X36.here hx rfl (hb hby at_79) rfl ?_
        show Steps p.tables e below (T36.setTop (mkF m 81 #[.val (.int p0_0), .val (.int p0_1), .val (.int p0_2), .val (.int p0_3), .val (.int NN), .val (.int OFF), .val (.int RM), .val (.int KK), .val (.int (bI (¬ ((p0_3 &&& (1 : Int32)) = (0 : Int32))))), .val (.ref b14), .val (.ref b18), .val (.int (bI (OFF = NN))), .unset, .unset, .unset] [(.int KK)])) _
        refine XS.iconst X36.here hx rfl (hb hby at_81) ?_
        show Steps p.tables e below (T36.setTop (mkF m 82 #[.val (.int p0_0), .val (.int p0_1), .val (.int p0_2), .val (.int p0_3), .val (.int NN), .val (.int OFF), .val (.int RM), .val (.int KK), .val (.int (bI (¬ ((p0_3 &&& (1 : Int32)) = (0 : Int32))))), .val (.ref b14), .val (.ref b18), .val (.int (bI (OFF = NN))), .unset, .unset, .unset] [(.int (1 : Int32)), (.int KK)])) _
        refine XS.icmpYes X36.here hx rfl (pc0 := 82) (pc' := 104) rfl (hb hby at_82) rfl (tlt hc43).1 (by decide) (by decide) ?_
        show Steps p.tables e below (T36.setTop (mkF m 104 #[.val (.int p0_0), .val (.int p0_1), .val (.int p0_2), .val (.int p0_3), .val (.int NN), .val (.int OFF), .val (.int RM), .val (.int KK), .val (.int (bI (¬ ((p0_3 &&& (1 : Int32)) = (0 : Int32))))), .val (.ref b14), .val (.ref b18), .val (.int (bI (OFF = NN))), .unset, .unset, .unset] [])) _
        refine XS.aload X36.here hx rfl (hb hby at_104) rfl rfl ?_
        show Steps p.tables e below (T36.setTop (mkF m 106 #[.val (.int p0_0), .val (.int p0_1), .val (.int p0_2), .val (.int p0_3), .val (.int NN), .val (.int OFF), .val (.int RM), .val (.int KK), .val (.int (bI (¬ ((p0_3 &&& (1 : Int32)) = (0 : Int32))))), .val (.ref b14), .val (.ref b18), .val (.int (bI (OFF = NN))), .unset, .unset, .unset] [(.ref b18)])) _
        refine XS.iload X36.here hx rfl (hb hby at_106) rfl ?_
        show Steps p.tables e below (T36.setTop (mkF m 108 #[.val (.int p0_0), .val (.int p0_1), .val (.int p0_2), .val (.int p0_3), .val (.int NN), .val (.int OFF), .val (.int RM), .val (.int KK), .val (.int (bI (¬ ((p0_3 &&& (1 : Int32)) = (0 : Int32))))), .val (.ref b14), .val (.ref b18), .val (.int (bI (OFF = NN))), .unset, .unset, .unset] [(.int KK), (.ref b18)])) _
        refine st44.trans ?_
        exact k)
      have f54 := f32.keep K44
      have f55 := f33.keep K44 (ninS ne19 nin0)
      have f56 := r27_0.keep K44
      have z57 := Nat.le_trans z35 K44.1
      obtain ⟨cq58, kq58, q58a, q58b, q58c⟩ := isOf hZ rfl r44_0
      obtain ⟨_, _, ⟨T58, L58, k58, n58⟩, -, X58, ⟨Lc58, hQ58, l58, y58, z58⟩, st58⟩ := X44.virtualBack hx (y := (⟨"com/example/libmosaic/libmosaic/encoding/ByteReader", "atEnd", "()Z"⟩ : MethodName)) (z := (⟨"com/example/libmosaic/libmosaic/encoding/ByteReader", "atEnd", "()Z"⟩ : MethodName)) hown (mvT hZ (hVV 15 _ rfl)) (mvT hZ (hVV 16 _ rfl)) (notFace_of_selects (args := #[]) (mvT hZ (hVV 18 _ rfl))) (mvT hZ (hVV 18 _ rfl)) (mvT hZ (hVV 17 _ rfl)) (by decide) (backOf (W := 0) (rm3 l Z a0 hw [] b18 b14 (OFF + KK) k14 NN T44.heap n0 z57 r44_1 r44_3 f55 f54 ne19) hZ (hVV 19 _ rfl) (hVV 4 _ rfl) (by decide) (by decide)) q58a q58c (g := (mkF m 114 #[.val (.int p0_0), .val (.int p0_1), .val (.int p0_2), .val (.int p0_3), .val (.int NN), .val (.int OFF), .val (.int RM), .val (.int KK), .val (.int (bI (¬ ((p0_3 &&& (1 : Int32)) = (0 : Int32))))), .val (.ref b14), .val (.ref b18), .val (.int (bI (OFF = NN))), .unset, .unset, .unset] [(.ref b18)])) rfl (by rw [hml]; rfl) (Steps.refl _) (argsL := []) (rest := []) (lenOf pd_5 rfl) rfl (by show 2 * 0 + _ ≤ _; exact Nat.le_of_eq rfl) (hb hby at_114) (fun _ _ => ⟨rfl, rfl, (by decide : 3 + 0 ≤ _), (by decide : 17 + 0 ≤ _)⟩)
      dsimp only [Pt.U, Pt.locs, Pt.cells, Pt.slots] at X58 l58 y58 z58 st58 hQ58
      subst l58 y58 z58
      obtain ⟨rfl, N58q, e58⟩ := hQ58
      have N59 := Fr.app N52 N58q
      have pre60 : ∀ t, Steps p.tables e below (T58.setTop (mkF m 117 #[.val (.int p0_0), .val (.int p0_1), .val (.int p0_2), .val (.int p0_3), .val (.int NN), .val (.int OFF), .val (.int RM), .val (.int KK), .val (.int (bI (¬ ((p0_3 &&& (1 : Int32)) = (0 : Int32))))), .val (.ref b14), .val (.ref b18), .val (.int (bI (OFF = NN))), .unset, .unset, .unset] [(.int (bI ((OFF + KK) = NN)))])) t → Steps p.tables e below (s₁.setTop (entryFrame m #[(.int p0_0), (.int p0_1), (.int p0_2), (.int p0_3)] maxLocals)) t := fun t k => pre53 t (by
        show Steps p.tables e below (T44.setTop (mkF m 111 #[.val (.int p0_0), .val (.int p0_1), .val (.int p0_2), .val (.int p0_3), .val (.int NN), .val (.int OFF), .val (.int RM), .val (.int KK), .val (.int (bI (¬ ((p0_3 &&& (1 : Int32)) = (0 : Int32))))), .val (.ref b14), .val (.ref b18), .val (.int (bI (OFF = NN))), .unset, .unset, .unset] [(.ref b45)])) _
        refine XS.pop X44.here hx rfl (hb hby at_111) rfl rfl ?_
        show Steps p.tables e below (T44.setTop (mkF m 112 #[.val (.int p0_0), .val (.int p0_1), .val (.int p0_2), .val (.int p0_3), .val (.int NN), .val (.int OFF), .val (.int RM), .val (.int KK), .val (.int (bI (¬ ((p0_3 &&& (1 : Int32)) = (0 : Int32))))), .val (.ref b14), .val (.ref b18), .val (.int (bI (OFF = NN))), .unset, .unset, .unset] [])) _
        refine XS.aload X44.here hx rfl (hb hby at_112) rfl rfl ?_
        show Steps p.tables e below (T44.setTop (mkF m 114 #[.val (.int p0_0), .val (.int p0_1), .val (.int p0_2), .val (.int p0_3), .val (.int NN), .val (.int OFF), .val (.int RM), .val (.int KK), .val (.int (bI (¬ ((p0_3 &&& (1 : Int32)) = (0 : Int32))))), .val (.ref b14), .val (.ref b18), .val (.int (bI (OFF = NN))), .unset, .unset, .unset] [(.ref b18)])) _
        refine st58.trans ?_
        exact k)
      have pre62 : ∀ t, Steps p.tables e below (T58.setTop (mkF m 123 #[.val (.int p0_0), .val (.int p0_1), .val (.int p0_2), .val (.int p0_3), .val (.int NN), .val (.int OFF), .val (.int RM), .val (.int KK), .val (.int (bI (¬ ((p0_3 &&& (1 : Int32)) = (0 : Int32))))), .val (.ref b14), .val (.ref b18), .val (.int (bI (OFF = NN))), .val (.int (bI ((OFF + KK) = NN))), .unset, .unset] [(.int NN), (.int OFF)])) t → Steps p.tables e below (s₁.setTop (entryFrame m #[(.int p0_0), (.int p0_1), (.int p0_2), (.int p0_3)] maxLocals)) t := fun t k => pre60 t (by
        show Steps p.tables e below (T58.setTop (mkF m 117 #[.val (.int p0_0), .val (.int p0_1), .val (.int p0_2), .val (.int p0_3), .val (.int NN), .val (.int OFF), .val (.int RM), .val (.int KK), .val (.int (bI (¬ ((p0_3 &&& (1 : Int32)) = (0 : Int32))))), .val (.ref b14), .val (.ref b18), .val (.int (bI (OFF = NN))), .unset, .unset, .unset] [(.int (bI ((OFF + KK) = NN)))])) _
        refine XS.istore X58.here hx rfl (hb hby at_117) rfl (l' := #[.val (.int p0_0), .val (.int p0_1), .val (.int p0_2), .val (.int p0_3), .val (.int NN), .val (.int OFF), .val (.int RM), .val (.int KK), .val (.int (bI (¬ ((p0_3 &&& (1 : Int32)) = (0 : Int32))))), .val (.ref b14), .val (.ref b18), .val (.int (bI (OFF = NN))), .val (.int (bI ((OFF + KK) = NN))), .unset, .unset]) rfl ?_
        show Steps p.tables e below (T58.setTop (mkF m 119 #[.val (.int p0_0), .val (.int p0_1), .val (.int p0_2), .val (.int p0_3), .val (.int NN), .val (.int OFF), .val (.int RM), .val (.int KK), .val (.int (bI (¬ ((p0_3 &&& (1 : Int32)) = (0 : Int32))))), .val (.ref b14), .val (.ref b18), .val (.int (bI (OFF = NN))), .val (.int (bI ((OFF + KK) = NN))), .unset, .unset] [])) _
        refine XS.iload X58.here hx rfl (hb hby at_119) rfl ?_
        show Steps p.tables e below (T58.setTop (mkF m 121 #[.val (.int p0_0), .val (.int p0_1), .val (.int p0_2), .val (.int p0_3), .val (.int NN), .val (.int OFF), .val (.int RM), .val (.int KK), .val (.int (bI (¬ ((p0_3 &&& (1 : Int32)) = (0 : Int32))))), .val (.ref b14), .val (.ref b18), .val (.int (bI (OFF = NN))), .val (.int (bI ((OFF + KK) = NN))), .unset, .unset] [(.int OFF)])) _
        refine XS.iload X58.here hx rfl (hb hby at_121) rfl ?_
        exact k)
      have pre63 : ∀ t, Steps p.tables e below (T58.setTop (mkF m 131 #[.val (.int p0_0), .val (.int p0_1), .val (.int p0_2), .val (.int p0_3), .val (.int NN), .val (.int OFF), .val (.int RM), .val (.int KK), .val (.int (bI (¬ ((p0_3 &&& (1 : Int32)) = (0 : Int32))))), .val (.ref b14), .val (.ref b18), .val (.int (bI (OFF = NN))), .val (.int (bI ((OFF + KK) = NN))), .unset, .unset] [(.int (bI (OFF = NN)))])) t → Steps p.tables e below (s₁.setTop (entryFrame m #[(.int p0_0), (.int p0_1), (.int p0_2), (.int p0_3)] maxLocals)) t := fun t k => pre62 t (by
        by_cases hc61 : OFF = NN
        · show Steps p.tables e below (T58.setTop (mkF m 123 #[.val (.int p0_0), .val (.int p0_1), .val (.int p0_2), .val (.int p0_3), .val (.int NN), .val (.int OFF), .val (.int RM), .val (.int KK), .val (.int (bI (¬ ((p0_3 &&& (1 : Int32)) = (0 : Int32))))), .val (.ref b14), .val (.ref b18), .val (.int (bI (OFF = NN))), .val (.int (bI ((OFF + KK) = NN))), .unset, .unset] [(.int NN), (.int OFF)])) _
          refine XS.icmpNo X58.here hx rfl (hb hby at_123) rfl (teq hc61).2 ?_
          show Steps p.tables e below (T58.setTop (mkF m 126 #[.val (.int p0_0), .val (.int p0_1), .val (.int p0_2), .val (.int p0_3), .val (.int NN), .val (.int OFF), .val (.int RM), .val (.int KK), .val (.int (bI (¬ ((p0_3 &&& (1 : Int32)) = (0 : Int32))))), .val (.ref b14), .val (.ref b18), .val (.int (bI (OFF = NN))), .val (.int (bI ((OFF + KK) = NN))), .unset, .unset] [])) _
          refine XS.iconst X58.here hx rfl (hb hby at_126) ?_
          show Steps p.tables e below (T58.setTop (mkF m 127 #[.val (.int p0_0), .val (.int p0_1), .val (.int p0_2), .val (.int p0_3), .val (.int NN), .val (.int OFF), .val (.int RM), .val (.int KK), .val (.int (bI (¬ ((p0_3 &&& (1 : Int32)) = (0 : Int32))))), .val (.ref b14), .val (.ref b18), .val (.int (bI (OFF = NN))), .val (.int (bI ((OFF + KK) = NN))), .unset, .unset] [(.int (1 : Int32))])) _
          refine XS.goto X58.here hx rfl (pc0 := 127) (pc' := 131) rfl (hb hby at_127) (by decide) (by decide) ?_
          have q64 : (bI (OFF = NN)) = (1 : Int32) := (bI_t hc61)
          exact castTop (g := (mkF m 131 #[.val (.int p0_0), .val (.int p0_1), .val (.int p0_2), .val (.int p0_3), .val (.int NN), .val (.int OFF), .val (.int RM), .val (.int KK), .val (.int (bI (¬ ((p0_3 &&& (1 : Int32)) = (0 : Int32))))), .val (.ref b14), .val (.ref b18), .val (.int (bI (OFF = NN))), .val (.int (bI ((OFF + KK) = NN))), .unset, .unset] [(.int (1 : Int32))])) (g' := (mkF m 131 #[.val (.int p0_0), .val (.int p0_1), .val (.int p0_2), .val (.int p0_3), .val (.int NN), .val (.int OFF), .val (.int RM), .val (.int KK), .val (.int (bI (¬ ((p0_3 &&& (1 : Int32)) = (0 : Int32))))), .val (.ref b14), .val (.ref b18), .val (.int (bI (OFF = NN))), .val (.int (bI ((OFF + KK) = NN))), .unset, .unset] [(.int (bI (OFF = NN)))])) (by simp only [q64]) k
        · show Steps p.tables e below (T58.setTop (mkF m 123 #[.val (.int p0_0), .val (.int p0_1), .val (.int p0_2), .val (.int p0_3), .val (.int NN), .val (.int OFF), .val (.int RM), .val (.int KK), .val (.int (bI (¬ ((p0_3 &&& (1 : Int32)) = (0 : Int32))))), .val (.ref b14), .val (.ref b18), .val (.int (bI (OFF = NN))), .val (.int (bI ((OFF + KK) = NN))), .unset, .unset] [(.int NN), (.int OFF)])) _
          refine XS.icmpYes X58.here hx rfl (pc0 := 123) (pc' := 130) rfl (hb hby at_123) rfl (feq hc61).2 (by decide) (by decide) ?_
          show Steps p.tables e below (T58.setTop (mkF m 130 #[.val (.int p0_0), .val (.int p0_1), .val (.int p0_2), .val (.int p0_3), .val (.int NN), .val (.int OFF), .val (.int RM), .val (.int KK), .val (.int (bI (¬ ((p0_3 &&& (1 : Int32)) = (0 : Int32))))), .val (.ref b14), .val (.ref b18), .val (.int (bI (OFF = NN))), .val (.int (bI ((OFF + KK) = NN))), .unset, .unset] [])) _
          refine XS.iconst X58.here hx rfl (hb hby at_130) ?_
          have q65 : (bI (OFF = NN)) = (0 : Int32) := (bI_f hc61)
          exact castTop (g := (mkF m 131 #[.val (.int p0_0), .val (.int p0_1), .val (.int p0_2), .val (.int p0_3), .val (.int NN), .val (.int OFF), .val (.int RM), .val (.int KK), .val (.int (bI (¬ ((p0_3 &&& (1 : Int32)) = (0 : Int32))))), .val (.ref b14), .val (.ref b18), .val (.int (bI (OFF = NN))), .val (.int (bI ((OFF + KK) = NN))), .unset, .unset] [(.int (0 : Int32))])) (g' := (mkF m 131 #[.val (.int p0_0), .val (.int p0_1), .val (.int p0_2), .val (.int p0_3), .val (.int NN), .val (.int OFF), .val (.int RM), .val (.int KK), .val (.int (bI (¬ ((p0_3 &&& (1 : Int32)) = (0 : Int32))))), .val (.ref b14), .val (.ref b18), .val (.int (bI (OFF = NN))), .val (.int (bI ((OFF + KK) = NN))), .unset, .unset] [(.int (bI (OFF = NN)))])) (by simp only [q65]) k)
      have pre67 : ∀ t, Steps p.tables e below (T58.setTop (mkF m 140 #[.val (.int p0_0), .val (.int p0_1), .val (.int p0_2), .val (.int p0_3), .val (.int NN), .val (.int OFF), .val (.int RM), .val (.int KK), .val (.int (bI (¬ ((p0_3 &&& (1 : Int32)) = (0 : Int32))))), .val (.ref b14), .val (.ref b18), .val (.int (bI (OFF = NN))), .val (.int (bI ((OFF + KK) = NN))), .val (.int (bI (OFF = NN))), .unset] [(.int NN), (.int (OFF + KK))])) t → Steps p.tables e below (s₁.setTop (entryFrame m #[(.int p0_0), (.int p0_1), (.int p0_2), (.int p0_3)] maxLocals)) t := fun t k => pre63 t (by
        show Steps p.tables e below (T58.setTop (mkF m 131 #[.val (.int p0_0), .val (.int p0_1), .val (.int p0_2), .val (.int p0_3), .val (.int NN), .val (.int OFF), .val (.int RM), .val (.int KK), .val (.int (bI (¬ ((p0_3 &&& (1 : Int32)) = (0 : Int32))))), .val (.ref b14), .val (.ref b18), .val (.int (bI (OFF = NN))), .val (.int (bI ((OFF + KK) = NN))), .unset, .unset] [(.int (bI (OFF = NN)))])) _
        refine XS.istore X58.here hx rfl (hb hby at_131) rfl (l' := #[.val (.int p0_0), .val (.int p0_1), .val (.int p0_2), .val (.int p0_3), .val (.int NN), .val (.int OFF), .val (.int RM), .val (.int KK), .val (.int (bI (¬ ((p0_3 &&& (1 : Int32)) = (0 : Int32))))), .val (.ref b14), .val (.ref b18), .val (.int (bI (OFF = NN))), .val (.int (bI ((OFF + KK) = NN))), .val (.int (bI (OFF = NN))), .unset]) rfl ?_
        show Steps p.tables e below (T58.setTop (mkF m 133 #[.val (.int p0_0), .val (.int p0_1), .val (.int p0_2), .val (.int p0_3), .val (.int NN), .val (.int OFF), .val (.int RM), .val (.int KK), .val (.int (bI (¬ ((p0_3 &&& (1 : Int32)) = (0 : Int32))))), .val (.ref b14), .val (.ref b18), .val (.int (bI (OFF = NN))), .val (.int (bI ((OFF + KK) = NN))), .val (.int (bI (OFF = NN))), .unset] [])) _
        refine XS.iload X58.here hx rfl (hb hby at_133) rfl ?_
        show Steps p.tables e below (T58.setTop (mkF m 135 #[.val (.int p0_0), .val (.int p0_1), .val (.int p0_2), .val (.int p0_3), .val (.int NN), .val (.int OFF), .val (.int RM), .val (.int KK), .val (.int (bI (¬ ((p0_3 &&& (1 : Int32)) = (0 : Int32))))), .val (.ref b14), .val (.ref b18), .val (.int (bI (OFF = NN))), .val (.int (bI ((OFF + KK) = NN))), .val (.int (bI (OFF = NN))), .unset] [(.int OFF)])) _
        refine XS.iload X58.here hx rfl (hb hby at_135) rfl ?_
        show Steps p.tables e below (T58.setTop (mkF m 137 #[.val (.int p0_0), .val (.int p0_1), .val (.int p0_2), .val (.int p0_3), .val (.int NN), .val (.int OFF), .val (.int RM), .val (.int KK), .val (.int (bI (¬ ((p0_3 &&& (1 : Int32)) = (0 : Int32))))), .val (.ref b14), .val (.ref b18), .val (.int (bI (OFF = NN))), .val (.int (bI ((OFF + KK) = NN))), .val (.int (bI (OFF = NN))), .unset] [(.int KK), (.int OFF)])) _
        refine XS.iadd X58.here hx rfl (hb hby at_137) rfl ?_
        show Steps p.tables e below (T58.setTop (mkF m 138 #[.val (.int p0_0), .val (.int p0_1), .val (.int p0_2), .val (.int p0_3), .val (.int NN), .val (.int OFF), .val (.int RM), .val (.int KK), .val (.int (bI (¬ ((p0_3 &&& (1 : Int32)) = (0 : Int32))))), .val (.ref b14), .val (.ref b18), .val (.int (bI (OFF = NN))), .val (.int (bI ((OFF + KK) = NN))), .val (.int (bI (OFF = NN))), .unset] [(.int (OFF + KK))])) _
        refine XS.iload X58.here hx rfl (hb hby at_138) rfl ?_
        exact k)
      have pre68 : ∀ t, Steps p.tables e below (T58.setTop (mkF m 148 #[.val (.int p0_0), .val (.int p0_1), .val (.int p0_2), .val (.int p0_3), .val (.int NN), .val (.int OFF), .val (.int RM), .val (.int KK), .val (.int (bI (¬ ((p0_3 &&& (1 : Int32)) = (0 : Int32))))), .val (.ref b14), .val (.ref b18), .val (.int (bI (OFF = NN))), .val (.int (bI ((OFF + KK) = NN))), .val (.int (bI (OFF = NN))), .unset] [(.int (bI ((OFF + KK) = NN)))])) t → Steps p.tables e below (s₁.setTop (entryFrame m #[(.int p0_0), (.int p0_1), (.int p0_2), (.int p0_3)] maxLocals)) t := fun t k => pre67 t (by
        by_cases hc66 : (OFF + KK) = NN
        · show Steps p.tables e below (T58.setTop (mkF m 140 #[.val (.int p0_0), .val (.int p0_1), .val (.int p0_2), .val (.int p0_3), .val (.int NN), .val (.int OFF), .val (.int RM), .val (.int KK), .val (.int (bI (¬ ((p0_3 &&& (1 : Int32)) = (0 : Int32))))), .val (.ref b14), .val (.ref b18), .val (.int (bI (OFF = NN))), .val (.int (bI ((OFF + KK) = NN))), .val (.int (bI (OFF = NN))), .unset] [(.int NN), (.int (OFF + KK))])) _
          refine XS.icmpNo X58.here hx rfl (hb hby at_140) rfl (teq hc66).2 ?_
          show Steps p.tables e below (T58.setTop (mkF m 143 #[.val (.int p0_0), .val (.int p0_1), .val (.int p0_2), .val (.int p0_3), .val (.int NN), .val (.int OFF), .val (.int RM), .val (.int KK), .val (.int (bI (¬ ((p0_3 &&& (1 : Int32)) = (0 : Int32))))), .val (.ref b14), .val (.ref b18), .val (.int (bI (OFF = NN))), .val (.int (bI ((OFF + KK) = NN))), .val (.int (bI (OFF = NN))), .unset] [])) _
          refine XS.iconst X58.here hx rfl (hb hby at_143) ?_
          show Steps p.tables e below (T58.setTop (mkF m 144 #[.val (.int p0_0), .val (.int p0_1), .val (.int p0_2), .val (.int p0_3), .val (.int NN), .val (.int OFF), .val (.int RM), .val (.int KK), .val (.int (bI (¬ ((p0_3 &&& (1 : Int32)) = (0 : Int32))))), .val (.ref b14), .val (.ref b18), .val (.int (bI (OFF = NN))), .val (.int (bI ((OFF + KK) = NN))), .val (.int (bI (OFF = NN))), .unset] [(.int (1 : Int32))])) _
          refine XS.goto X58.here hx rfl (pc0 := 144) (pc' := 148) rfl (hb hby at_144) (by decide) (by decide) ?_
          have q69 : (bI ((OFF + KK) = NN)) = (1 : Int32) := (bI_t hc66)
          exact castTop (g := (mkF m 148 #[.val (.int p0_0), .val (.int p0_1), .val (.int p0_2), .val (.int p0_3), .val (.int NN), .val (.int OFF), .val (.int RM), .val (.int KK), .val (.int (bI (¬ ((p0_3 &&& (1 : Int32)) = (0 : Int32))))), .val (.ref b14), .val (.ref b18), .val (.int (bI (OFF = NN))), .val (.int (bI ((OFF + KK) = NN))), .val (.int (bI (OFF = NN))), .unset] [(.int (1 : Int32))])) (g' := (mkF m 148 #[.val (.int p0_0), .val (.int p0_1), .val (.int p0_2), .val (.int p0_3), .val (.int NN), .val (.int OFF), .val (.int RM), .val (.int KK), .val (.int (bI (¬ ((p0_3 &&& (1 : Int32)) = (0 : Int32))))), .val (.ref b14), .val (.ref b18), .val (.int (bI (OFF = NN))), .val (.int (bI ((OFF + KK) = NN))), .val (.int (bI (OFF = NN))), .unset] [(.int (bI ((OFF + KK) = NN)))])) (by simp only [q69]) k
        · show Steps p.tables e below (T58.setTop (mkF m 140 #[.val (.int p0_0), .val (.int p0_1), .val (.int p0_2), .val (.int p0_3), .val (.int NN), .val (.int OFF), .val (.int RM), .val (.int KK), .val (.int (bI (¬ ((p0_3 &&& (1 : Int32)) = (0 : Int32))))), .val (.ref b14), .val (.ref b18), .val (.int (bI (OFF = NN))), .val (.int (bI ((OFF + KK) = NN))), .val (.int (bI (OFF = NN))), .unset] [(.int NN), (.int (OFF + KK))])) _
          refine XS.icmpYes X58.here hx rfl (pc0 := 140) (pc' := 147) rfl (hb hby at_140) rfl (feq hc66).2 (by decide) (by decide) ?_
          show Steps p.tables e below (T58.setTop (mkF m 147 #[.val (.int p0_0), .val (.int p0_1), .val (.int p0_2), .val (.int p0_3), .val (.int NN), .val (.int OFF), .val (.int RM), .val (.int KK), .val (.int (bI (¬ ((p0_3 &&& (1 : Int32)) = (0 : Int32))))), .val (.ref b14), .val (.ref b18), .val (.int (bI (OFF = NN))), .val (.int (bI ((OFF + KK) = NN))), .val (.int (bI (OFF = NN))), .unset] [])) _
          refine XS.iconst X58.here hx rfl (hb hby at_147) ?_
          have q70 : (bI ((OFF + KK) = NN)) = (0 : Int32) := (bI_f hc66)
          exact castTop (g := (mkF m 148 #[.val (.int p0_0), .val (.int p0_1), .val (.int p0_2), .val (.int p0_3), .val (.int NN), .val (.int OFF), .val (.int RM), .val (.int KK), .val (.int (bI (¬ ((p0_3 &&& (1 : Int32)) = (0 : Int32))))), .val (.ref b14), .val (.ref b18), .val (.int (bI (OFF = NN))), .val (.int (bI ((OFF + KK) = NN))), .val (.int (bI (OFF = NN))), .unset] [(.int (0 : Int32))])) (g' := (mkF m 148 #[.val (.int p0_0), .val (.int p0_1), .val (.int p0_2), .val (.int p0_3), .val (.int NN), .val (.int OFF), .val (.int RM), .val (.int KK), .val (.int (bI (¬ ((p0_3 &&& (1 : Int32)) = (0 : Int32))))), .val (.ref b14), .val (.ref b18), .val (.int (bI (OFF = NN))), .val (.int (bI ((OFF + KK) = NN))), .val (.int (bI (OFF = NN))), .unset] [(.int (bI ((OFF + KK) = NN)))])) (by simp only [q70]) k)
      obtain ⟨fs, hr, hrun, hended, hW, hsame⟩ := X58.leave (v := some (.int (1 : Int32))) (fun h => by rw [Bd.returns] at h; cases h)
      refine ⟨_, _, pre68 _ ?_, hrun, hended, _, _, rfl, ?_, ⟨_, rfl⟩, hW, hsame.mono (by decide) (by decide)⟩
      · show Steps p.tables e below (T58.setTop (mkF m 148 #[.val (.int p0_0), .val (.int p0_1), .val (.int p0_2), .val (.int p0_3), .val (.int NN), .val (.int OFF), .val (.int RM), .val (.int KK), .val (.int (bI (¬ ((p0_3 &&& (1 : Int32)) = (0 : Int32))))), .val (.ref b14), .val (.ref b18), .val (.int (bI (OFF = NN))), .val (.int (bI ((OFF + KK) = NN))), .val (.int (bI (OFF = NN))), .unset] [(.int (bI ((OFF + KK) = NN)))])) _
        refine XS.istore X58.here hx rfl (hb hby at_148) rfl (l' := #[.val (.int p0_0), .val (.int p0_1), .val (.int p0_2), .val (.int p0_3), .val (.int NN), .val (.int OFF), .val (.int RM), .val (.int KK), .val (.int (bI (¬ ((p0_3 &&& (1 : Int32)) = (0 : Int32))))), .val (.ref b14), .val (.ref b18), .val (.int (bI (OFF = NN))), .val (.int (bI ((OFF + KK) = NN))), .val (.int (bI (OFF = NN))), .val (.int (bI ((OFF + KK) = NN)))]) rfl ?_
        show Steps p.tables e below (T58.setTop (mkF m 150 #[.val (.int p0_0), .val (.int p0_1), .val (.int p0_2), .val (.int p0_3), .val (.int NN), .val (.int OFF), .val (.int RM), .val (.int KK), .val (.int (bI (¬ ((p0_3 &&& (1 : Int32)) = (0 : Int32))))), .val (.ref b14), .val (.ref b18), .val (.int (bI (OFF = NN))), .val (.int (bI ((OFF + KK) = NN))), .val (.int (bI (OFF = NN))), .val (.int (bI ((OFF + KK) = NN)))] [])) _
        refine XS.iload X58.here hx rfl (hb hby at_150) rfl ?_
        show Steps p.tables e below (T58.setTop (mkF m 152 #[.val (.int p0_0), .val (.int p0_1), .val (.int p0_2), .val (.int p0_3), .val (.int NN), .val (.int OFF), .val (.int RM), .val (.int KK), .val (.int (bI (¬ ((p0_3 &&& (1 : Int32)) = (0 : Int32))))), .val (.ref b14), .val (.ref b18), .val (.int (bI (OFF = NN))), .val (.int (bI ((OFF + KK) = NN))), .val (.int (bI (OFF = NN))), .val (.int (bI ((OFF + KK) = NN)))] [(.int (bI (OFF = NN)))])) _
        refine XS.iload X58.here hx rfl (hb hby at_152) rfl ?_
        show Steps p.tables e below (T58.setTop (mkF m 154 #[.val (.int p0_0), .val (.int p0_1), .val (.int p0_2), .val (.int p0_3), .val (.int NN), .val (.int OFF), .val (.int RM), .val (.int KK), .val (.int (bI (¬ ((p0_3 &&& (1 : Int32)) = (0 : Int32))))), .val (.ref b14), .val (.ref b18), .val (.int (bI (OFF = NN))), .val (.int (bI ((OFF + KK) = NN))), .val (.int (bI (OFF = NN))), .val (.int (bI ((OFF + KK) = NN)))] [(.int (bI (OFF = NN))), (.int (bI (OFF = NN)))])) _
        refine XS.icmpNo X58.here hx rfl (hb hby at_154) rfl (teq (rfl : (bI (OFF = NN)) = (bI (OFF = NN)))).2 ?_
        show Steps p.tables e below (T58.setTop (mkF m 157 #[.val (.int p0_0), .val (.int p0_1), .val (.int p0_2), .val (.int p0_3), .val (.int NN), .val (.int OFF), .val (.int RM), .val (.int KK), .val (.int (bI (¬ ((p0_3 &&& (1 : Int32)) = (0 : Int32))))), .val (.ref b14), .val (.ref b18), .val (.int (bI (OFF = NN))), .val (.int (bI ((OFF + KK) = NN))), .val (.int (bI (OFF = NN))), .val (.int (bI ((OFF + KK) = NN)))] [])) _
        refine XS.iload X58.here hx rfl (hb hby at_157) rfl ?_
        show Steps p.tables e below (T58.setTop (mkF m 159 #[.val (.int p0_0), .val (.int p0_1), .val (.int p0_2), .val (.int p0_3), .val (.int NN), .val (.int OFF), .val (.int RM), .val (.int KK), .val (.int (bI (¬ ((p0_3 &&& (1 : Int32)) = (0 : Int32))))), .val (.ref b14), .val (.ref b18), .val (.int (bI (OFF = NN))), .val (.int (bI ((OFF + KK) = NN))), .val (.int (bI (OFF = NN))), .val (.int (bI ((OFF + KK) = NN)))] [(.int (bI ((OFF + KK) = NN)))])) _
        refine XS.iload X58.here hx rfl (hb hby at_159) rfl ?_
        show Steps p.tables e below (T58.setTop (mkF m 161 #[.val (.int p0_0), .val (.int p0_1), .val (.int p0_2), .val (.int p0_3), .val (.int NN), .val (.int OFF), .val (.int RM), .val (.int KK), .val (.int (bI (¬ ((p0_3 &&& (1 : Int32)) = (0 : Int32))))), .val (.ref b14), .val (.ref b18), .val (.int (bI (OFF = NN))), .val (.int (bI ((OFF + KK) = NN))), .val (.int (bI (OFF = NN))), .val (.int (bI ((OFF + KK) = NN)))] [(.int (bI ((OFF + KK) = NN))), (.int (bI ((OFF + KK) = NN)))])) _
        refine XS.icmpNo X58.here hx rfl (hb hby at_161) rfl (teq (rfl : (bI ((OFF + KK) = NN)) = (bI ((OFF + KK) = NN)))).2 ?_
        show Steps p.tables e below (T58.setTop (mkF m 164 #[.val (.int p0_0), .val (.int p0_1), .val (.int p0_2), .val (.int p0_3), .val (.int NN), .val (.int OFF), .val (.int RM), .val (.int KK), .val (.int (bI (¬ ((p0_3 &&& (1 : Int32)) = (0 : Int32))))), .val (.ref b14), .val (.ref b18), .val (.int (bI (OFF = NN))), .val (.int (bI ((OFF + KK) = NN))), .val (.int (bI (OFF = NN))), .val (.int (bI ((OFF + KK) = NN)))] [])) _
        refine XS.iconst X58.here hx rfl (hb hby at_164) ?_
        show Steps p.tables e below (T58.setTop (mkF m 165 #[.val (.int p0_0), .val (.int p0_1), .val (.int p0_2), .val (.int p0_3), .val (.int NN), .val (.int OFF), .val (.int RM), .val (.int KK), .val (.int (bI (¬ ((p0_3 &&& (1 : Int32)) = (0 : Int32))))), .val (.ref b14), .val (.ref b18), .val (.int (bI (OFF = NN))), .val (.int (bI ((OFF + KK) = NN))), .val (.int (bI (OFF = NN))), .val (.int (bI ((OFF + KK) = NN)))] [(.int (1 : Int32))])) _
        refine XS.goto X58.here hx rfl (pc0 := 165) (pc' := 169) rfl (hb hby at_165) (by decide) (by decide) ?_
        show Steps p.tables e below (T58.setTop (mkF m 169 #[.val (.int p0_0), .val (.int p0_1), .val (.int p0_2), .val (.int p0_3), .val (.int NN), .val (.int OFF), .val (.int RM), .val (.int KK), .val (.int (bI (¬ ((p0_3 &&& (1 : Int32)) = (0 : Int32))))), .val (.ref b14), .val (.ref b18), .val (.int (bI (OFF = NN))), .val (.int (bI ((OFF + KK) = NN))), .val (.int (bI (OFF = NN))), .val (.int (bI ((OFF + KK) = NN)))] [(.int (1 : Int32))])) _
        exact retN X58 hx (t := .boolean) Bd.returns (by simp) (hb hby at_169) hr
      · show Q0 Z p0_0 p0_1 p0_2 p0_3 h0 n0 _ T58.heap _
        rw [e58]
        exact ⟨rfl, N59⟩
    · have hq72 : 0 ≤ OFF.toInt := by
        exact hOFF0.1
      have hq73 : OFF.toInt + 1 ≤ NN.toInt := by
        rw [Int32.lt_iff_toInt_lt, own_1] at hc43
        omega
      have hq74 : NN.toInt ≤ 7 := by
        exact hNN0.2
      obtain ⟨cq71, kq71, q71a, q71b, q71c⟩ := isOf hZ e36 r27_0
      obtain ⟨_, _, ⟨T71, L71, k71, n71⟩, -, X71, ⟨Lc71, hQ71, l71, y71, z71⟩, st71⟩ := X36.virtualBack hx (y := (⟨"com/example/libmosaic/libmosaic/encoding/ByteReader", "read", "()I"⟩ : MethodName)) (z := (⟨"com/example/libmosaic/libmosaic/encoding/ByteReader", "read", "()I"⟩ : MethodName)) hown (mvT hZ (hVV 58 _ rfl)) (mvT hZ (hVV 59 _ rfl)) (notFace_of_selects (args := #[]) (mvT hZ (hVV 61 _ rfl))) (mvT hZ (hVV 61 _ rfl)) (mvT hZ (hVV 60 _ rfl)) (by decide) (backOf (W := 0) (rm10 l Z a0 hw [] b18 b14 OFF k14 NN T27.heap n0 z35 r27_2 r27_3 r27_1 f33 f32 hq72 hq73 hq74 ne19 r27_0 gz18) hZ (hVV 62 _ rfl) (hVV 4 _ rfl) (by decide) (by decide)) q71a q71c (g := (mkF m 87 #[.val (.int p0_0), .val (.int p0_1), .val (.int p0_2), .val (.int p0_3), .val (.int NN), .val (.int OFF), .val (.int RM), .val (.int KK), .val (.int (bI (¬ ((p0_3 &&& (1 : Int32)) = (0 : Int32))))), .val (.ref b14), .val (.ref b18), .val (.int (bI (OFF = NN))), .unset, .unset, .unset] [(.ref b18)])) rfl (by rw [hml]; rfl) (Steps.refl _) (argsL := []) (rest := []) (lenOf pd_7 rfl) rfl (by show 2 * 0 + _ ≤ _; exact Nat.le_of_eq rfl) (hb hby at_87) (fun _ _ => ⟨rfl, e36, (by decide : 2 + 0 ≤ _), (by decide : 10 + 0 ≤ _)⟩)
      dsimp only [Pt.U, Pt.locs, Pt.cells, Pt.slots] at X71 l71 y71 z71 st71 hQ71
      subst l71 y71 z71
      obtain ⟨rfl, N71q, K71, r71_0, r71_1, r71_2, r71_3⟩ := hQ71
      have N75 := Fr.app N37 N71q
      have pre76 : ∀ t, Steps p.tables e below (T71.setTop (mkF m 90 #[.val (.int p0_0), .val (.int p0_1), .val (.int p0_2), .val (.int p0_3), .val (.int NN), .val (.int OFF), .val (.int RM), .val (.int KK), .val (.int (bI (¬ ((p0_3 &&& (1 : Int32)) = (0 : Int32))))), .val (.ref b14), .val (.ref b18), .val (.int (bI (OFF = NN))), .unset, .unset, .unset] [(.int (((0 : Int32) &&& (255 : Int32)) ^^^ (0 : Int32)))])) t → Steps p.tables e below (s₁.setTop (entryFrame m #[(.int p0_0), (.int p0_1), (.int p0_2), (.int p0_3)] maxLocals)) t := fun t k => pre38 t (by
        show Steps p.tables e below (T36.setTop (mkF m 72 #[.val (.int p0_0), .val (.int p0_1), .val (.int p0_2), .val (.int p0_3), .val (.int NN), .val (.int OFF), .val (.int RM), .val (.int KK), .val (.int (bI (¬ ((p0_3 &&& (1 : Int32)) = (0 : Int32))))), .val (.ref b14), .val (.ref b18), .unset, .unset, .unset, .unset] [(.int (bI (OFF = NN)))])) _
        refine XS.istore X36.here hx rfl (hb hby at_72) rfl (l' := #[.val (.int p0_0), .val (.int p0_1), .val (.int p0_2), .val (.int p0_3), .val (.int NN), .val (.int OFF), .val (.int RM), .val (.int KK), .val (.int (bI (¬ ((p0_3 &&& (1 : Int32)) = (0 : Int32))))), .val (.ref b14), .val (.ref b18), .val (.int (bI (OFF = NN))), .unset, .unset, .unset]) rfl ?_
        show Steps p.tables e below (T36.setTop (mkF m 74 #[.val (.int p0_0), .val (.int p0_1), .val (.int p0_2), .val (.int p0_3), .val (.int NN), .val (.int OFF), .val (.int RM), .val (.int KK), .val (.int (bI (¬ ((p0_3 &&& (1 : Int32)) = (0 : Int32))))), .val (.ref b14), .val (.ref b18), .val (.int (bI (OFF = NN))), .unset, .unset, .unset] [])) _
        refine XS.iload X36.here hx rfl (hb hby at_74) rfl ?_
        show Steps p.tables e below (T36.setTop (mkF m 76 #[.val (.int p0_0), .val (.int p0_1), .val (.int p0_2), .val (.int p0_3), .val (.int NN), .val (.int OFF), .val (.int RM), .val (.int KK), .val (.int (bI (¬ ((p0_3 &&& (1 : Int32)) = (0 : Int32))))), .val (.ref b14), .val (.ref b18), .val (.int (bI (OFF = NN))), .unset, .unset, .unset] [(.int (bI (¬ ((p0_3 &&& (1 : Int32)) = (0 : Int32)))))])) _
        refine XS.ifNo X36.here hx rfl (hb hby at_76) rfl ((if0 _ _).trans (feq (bI_n hc41)).1) ?_
        show Steps p.tables e below (T36.setTop (mkF m 79 #[.val (.int p0_0), .val (.int p0_1), .val (.int p0_2), .val (.int p0_3), .val (.int NN), .val (.int OFF), .val (.int RM), .val (.int KK), .val (.int (bI (¬ ((p0_3 &&& (1 : Int32)) = (0 : Int32))))), .val (.ref b14), .val (.ref b18), .val (.int (bI (OFF = NN))), .unset, .unset, .unset] [])) _
        refine XS.iload X36.here hx rfl (hb hby at_79) rfl ?_
        show Steps p.tables e below (T36.setTop (mkF m 81 #[.val (.int p0_0), .val (.int p0_1), .val (.int p0_2), .val (.int p0_3), .val (.int NN), .val (.int OFF), .val (.int RM), .val (.int KK), .val (.int (bI (¬ ((p0_3 &&& (1 : Int32)) = (0 : Int32))))), .val (.ref b14), .val (.ref b18), .val (.int (bI (OFF = NN))), .unset, .unset, .unset] [(.int KK)])) _
        refine XS.iconst X36.here hx rfl (hb hby at_81) ?_
        show Steps p.tables e below (T36.setTop (mkF m 82 #[.val (.int p0_0), .val (.int p0_1), .val (.int p0_2), .val (.int p0_3), .val (.int NN), .val (.int OFF), .val (.int RM), .val (.int KK), .val (.int (bI (¬ ((p0_3 &&& (1 : Int32)) = (0 : Int32))))), .val (.ref b14), .val (.ref b18), .val (.int (bI (OFF = NN))), .unset, .unset, .unset] [(.int (1 : Int32)), (.int KK)])) _
        refine XS.icmpNo X36.here hx rfl (hb hby at_82) rfl (flt hc43).1 ?_
        show Steps p.tables e below (T36.setTop (mkF m 85 #[.val (.int p0_0), .val (.int p0_1), .val (.int p0_2), .val (.int p0_3), .val (.int NN), .val (.int OFF), .val (.int RM), .val (.int KK), .val (.int (bI (¬ ((p0_3 &&& (1 : Int32)) = (0 : Int32))))), .val (.ref b14), .val (.ref b18), .val (.int (bI (OFF = NN))), .unset, .unset, .unset] [])) _
        refine XS.aload X36.here hx rfl (hb hby at_85) rfl rfl ?_
        show Steps p.tables e below (T36.setTop (mkF m 87 #[.val (.int p0_0), .val (.int p0_1), .val (.int p0_2), .val (.int p0_3), .val (.int NN), .val (.int OFF), .val (.int RM), .val (.int KK), .val (.int (bI (¬ ((p0_3 &&& (1 : Int32)) = (0 : Int32))))), .val (.ref b14), .val (.ref b18), .val (.int (bI (OFF = NN))), .unset, .unset, .unset] [(.ref b18)])) _
        refine st71.trans ?_
        exact k)
      have f77 := f32.keep K71
      have f78 := f33.keep K71 (ninS ne19 nin0)
      have f79 := r27_0.keep K71
      have z80 := Nat.le_trans z35 K71.1
      obtain ⟨b82, g82⟩ : ∃ z, z = T71.heap.size := ⟨_, rfl⟩
      have gz82 : n0 ≤ b82 := Nat.le_trans z80 (Nat.le_of_eq g82.symm)
      have ne83 : b14 ≠ b82 := Nat.ne_of_lt (Nat.lt_of_lt_of_le f77.lt (Nat.le_of_eq g82.symm))
      have ne84 : b18 ≠ b82 := Nat.ne_of_lt (Nat.lt_of_lt_of_le r71_0.lt (Nat.le_of_eq g82.symm))
      have hq85 : 0 ≤ (OFF + (1 : Int32)).toInt := by
        have c := c_isub KK 1
        have rr := rng32 (KK - 1)
        have c2 := c_iadd OFF 1
        have rr2 := rng32 (OFF + 1)
        rw [own_1] at c c2
        omega
      have hq86 : 0 ≤ (KK - (1 : Int32)).toInt := by
        rw [Int32.lt_iff_toInt_lt, own_1] at hc43
        have c := c_isub KK 1
        have rr := rng32 (KK - 1)
        have c2 := c_iadd OFF 1
        have rr2 := rng32 (OFF + 1)
        rw [own_1] at c c2
        omega
      have hq87 : (OFF + (1 : Int32)).toInt + (KK - (1 : Int32)).toInt ≤ NN.toInt := by
        rw [Int32.lt_iff_toInt_lt, own_1] at hc43
        have c := c_isub KK 1
        have rr := rng32 (KK - 1)
        have c2 := c_iadd OFF 1
        have rr2 := rng32 (OFF + 1)
        rw [own_1] at c c2
        omega
      have hq88 : NN.toInt ≤ 7 := by
        exact hNN0.2
      obtain ⟨cq81, kq81, q81a, q81b, q81c⟩ := isOf hZ rfl r71_0
      obtain ⟨_, _, ⟨T81, L81, k81, n81⟩, -, X81, ⟨Lc81, hQ81, l81, y81, z81⟩, st81⟩ := X71.virtualBack hx (y := (⟨"com/example/libmosaic/libmosaic/encoding/ByteReader", "read", "(I)[B"⟩ : MethodName)) (z := (⟨"com/example/libmosaic/libmosaic/encoding/ByteReader", "read", "(I)[B"⟩ : MethodName)) hown (mvT hZ (hVV 20 _ rfl)) (mvT hZ (hVV 21 _ rfl)) (notFace_of_selects (args := #[]) (mvT hZ (hVV 23 _ rfl))) (mvT hZ (hVV 23 _ rfl)) (mvT hZ (hVV 22 _ rfl)) (by decide) (backOf (W := 0) (rm4 l Z a0 hw [] b18 (KK - (1 : Int32)) b14 (OFF + (1 : Int32)) k14 NN b82 T71.heap n0 z80 r71_1 r71_3 r71_2 f78 f77 g82 hq85 hq86 hq87 hq88 ne19 r71_0 gz18) hZ (hVV 24 _ rfl) (hVV 4 _ rfl) (by decide) (by decide)) q81a q81c (g := (mkF m 97 #[.val (.int p0_0), .val (.int p0_1), .val (.int p0_2), .val (.int p0_3), .val (.int NN), .val (.int OFF), .val (.int RM), .val (.int KK), .val (.int (bI (¬ ((p0_3 &&& (1 : Int32)) = (0 : Int32))))), .val (.ref b14), .val (.ref b18), .val (.int (bI (OFF = NN))), .unset, .unset, .unset] [(.int (KK - (1 : Int32))), (.ref b18)])) rfl (by rw [hml]; rfl) (Steps.refl _) (argsL := [(.int (KK - (1 : Int32)))]) (rest := []) (lenOf pd_6 rfl) rfl (by show 2 * 0 + _ ≤ _; exact Nat.le_of_eq rfl) (hb hby at_97) (fun _ _ => ⟨rfl, rfl, (by decide : 2 + 1 ≤ _), (by decide : 10 + 7 ≤ _)⟩)
      dsimp only [Pt.U, Pt.locs, Pt.cells, Pt.slots] at X81 l81 y81 z81 st81 hQ81
      subst l81 y81 z81
      obtain ⟨rfl, N81q, K81, r81_0, r81_1, r81_2, r81_3⟩ := hQ81
      have N89 := Fr.app N75 N81q
      have pre90 : ∀ t, Steps p.tables e below (T81.setTop (mkF m 100 #[.val (.int p0_0), .val (.int p0_1), .val (.int p0_2), .val (.int p0_3), .val (.int NN), .val (.int OFF), .val (.int RM), .val (.int KK), .val (.int (bI (¬ ((p0_3 &&& (1 : Int32)) = (0 : Int32))))), .val (.ref b14), .val (.ref b18), .val (.int (bI (OFF = NN))), .unset, .unset, .unset] [(.ref b82)])) t → Steps p.tables e below (s₁.setTop (entryFrame m #[(.int p0_0), (.int p0_1), (.int p0_2), (.int p0_3)] maxLocals)) t := fun t k => pre76 t (by
        show Steps p.tables e below (T71.setTop (mkF m 90 #[.val (.int p0_0), .val (.int p0_1), .val (.int p0_2), .val (.int p0_3), .val (.int NN), .val (.int OFF), .val (.int RM), .val (.int KK), .val (.int (bI (¬ ((p0_3 &&& (1 : Int32)) = (0 : Int32))))), .val (.ref b14), .val (.ref b18), .val (.int (bI (OFF = NN))), .unset, .unset, .unset] [(.int (((0 : Int32) &&& (255 : Int32)) ^^^ (0 : Int32)))])) _
        refine XS.pop X71.here hx rfl (hb hby at_90) rfl rfl ?_
        show Steps p.tables e below (T71.setTop (mkF m 91 #[.val (.int p0_0), .val (.int p0_1), .val (.int p0_2), .val (.int p0_3), .val (.int NN), .val (.int OFF), .val (.int RM), .val (.int KK), .val (.int (bI (¬ ((p0_3 &&& (1 : Int32)) = (0 : Int32))))), .val (.ref b14), .val (.ref b18), .val (.int (bI (OFF = NN))), .unset, .unset, .unset] [])) _
        refine XS.aload X71.here hx rfl (hb hby at_91) rfl rfl ?_
        show Steps p.tables e below (T71.setTop (mkF m 93 #[.val (.int p0_0), .val (.int p0_1), .val (.int p0_2), .val (.int p0_3), .val (.int NN), .val (.int OFF), .val (.int RM), .val (.int KK), .val (.int (bI (¬ ((p0_3 &&& (1 : Int32)) = (0 : Int32))))), .val (.ref b14), .val (.ref b18), .val (.int (bI (OFF = NN))), .unset, .unset, .unset] [(.ref b18)])) _
        refine XS.iload X71.here hx rfl (hb hby at_93) rfl ?_
        show Steps p.tables e below (T71.setTop (mkF m 95 #[.val (.int p0_0), .val (.int p0_1), .val (.int p0_2), .val (.int p0_3), .val (.int NN), .val (.int OFF), .val (.int RM), .val (.int KK), .val (.int (bI (¬ ((p0_3 &&& (1 : Int32)) = (0 : Int32))))), .val (.ref b14), .val (.ref b18), .val (.int (bI (OFF = NN))), .unset, .unset, .unset] [(.int KK), (.ref b18)])) _
        refine XS.iconst X71.here hx rfl (hb hby at_95) ?_
        show Steps p.tables e below (T71.setTop (mkF m 96 #[.val (.int p0_0), .val (.int p0_1), .val (.int p0_2), .val (.int p0_3), .val (.int NN), .val (.int OFF), .val (.int RM), .val (.int KK), .val (.int (bI (¬ ((p0_3 &&& (1 : Int32)) = (0 : Int32))))), .val (.ref b14), .val (.ref b18), .val (.int (bI (OFF = NN))), .unset, .unset, .unset] [(.int (1 : Int32)), (.int KK), (.ref b18)])) _
        refine XS.isub X71.here hx rfl (hb hby at_96) rfl ?_
        show Steps p.tables e below (T71.setTop (mkF m 97 #[.val (.int p0_0), .val (.int p0_1), .val (.int p0_2), .val (.int p0_3), .val (.int NN), .val (.int OFF), .val (.int RM), .val (.int KK), .val (.int (bI (¬ ((p0_3 &&& (1 : Int32)) = (0 : Int32))))), .val (.ref b14), .val (.ref b18), .val (.int (bI (OFF = NN))), .unset, .unset, .unset] [(.int (KK - (1 : Int32))), (.ref b18)])) _
        refine st81.trans ?_
        exact k)
      have f91 := f77.keep K81
      have f92 := f78.keep K81 (ninS ne19 nin0)
      have f93 := r71_0.keep K81
      have z94 := Nat.le_trans z80 K81.1
      obtain ⟨cq95, kq95, q95a, q95b, q95c⟩ := isOf hZ rfl r81_0
      obtain ⟨_, _, ⟨T95, L95, k95, n95⟩, -, X95, ⟨Lc95, hQ95, l95, y95, z95⟩, st95⟩ := X81.virtualBack hx (y := (⟨"com/example/libmosaic/libmosaic/encoding/ByteReader", "atEnd", "()Z"⟩ : MethodName)) (z := (⟨"com/example/libmosaic/libmosaic/encoding/ByteReader", "atEnd", "()Z"⟩ : MethodName)) hown (mvT hZ (hVV 15 _ rfl)) (mvT hZ (hVV 16 _ rfl)) (notFace_of_selects (args := #[]) (mvT hZ (hVV 18 _ rfl))) (mvT hZ (hVV 18 _ rfl)) (mvT hZ (hVV 17 _ rfl)) (by decide) (backOf (W := 0) (rm3 l Z a0 hw [] b18 b14 ((OFF + (1 : Int32)) + (KK - (1 : Int32))) k14 NN T81.heap n0 z94 r81_1 r81_3 f92 f91 ne19) hZ (hVV 19 _ rfl) (hVV 4 _ rfl) (by decide) (by decide)) q95a q95c (g := (mkF m 114 #[.val (.int p0_0), .val (.int p0_1), .val (.int p0_2), .val (.int p0_3), .val (.int NN), .val (.int OFF), .val (.int RM), .val (.int KK), .val (.int (bI (¬ ((p0_3 &&& (1 : Int32)) = (0 : Int32))))), .val (.ref b14), .val (.ref b18), .val (.int (bI (OFF = NN))), .unset, .unset, .unset] [(.ref b18)])) rfl (by rw [hml]; rfl) (Steps.refl _) (argsL := []) (rest := []) (lenOf pd_5 rfl) rfl (by show 2 * 0 + _ ≤ _; exact Nat.le_of_eq rfl) (hb hby at_114) (fun _ _ => ⟨rfl, rfl, (by decide : 3 + 0 ≤ _), (by decide : 17 + 0 ≤ _)⟩)
      dsimp only [Pt.U, Pt.locs, Pt.cells, Pt.slots] at X95 l95 y95 z95 st95 hQ95
      subst l95 y95 z95
      obtain ⟨rfl, N95q, e95⟩ := hQ95
      have N96 := Fr.app N89 N95q
      have pre97 : ∀ t, Steps p.tables e below (T95.setTop (mkF m 117 #[.val (.int p0_0), .val (.int p0_1), .val (.int p0_2), .val (.int p0_3), .val (.int NN), .val (.int OFF), .val (.int RM), .val (.int KK), .val (.int (bI (¬ ((p0_3 &&& (1 : Int32)) = (0 : Int32))))), .val (.ref b14), .val (.ref b18), .val (.int (bI (OFF = NN))), .unset, .unset, .unset] [(.int (bI (((OFF + (1 : Int32)) + (KK - (1 : Int32))) = NN)))])) t → Steps p.tables e below (s₁.setTop (entryFrame m #[(.int p0_0), (.int p0_1), (.int p0_2), (.int p0_3)] maxLocals)) t := fun t k => pre90 t (by
        show Steps p.tables e below (T81.setTop (mkF m 100 #[.val (.int p0_0), .val (.int p0_1), .val (.int p0_2), .val (.int p0_3), .val (.int NN), .val (.int OFF), .val (.int RM), .val (.int KK), .val (.int (bI (¬ ((p0_3 &&& (1 : Int32)) = (0 : Int32))))), .val (.ref b14), .val (.ref b18), .val (.int (bI (OFF = NN))), .unset, .unset, .unset] [(.ref b82)])) _
        refine XS.pop X81.here hx rfl (hb hby at_100) rfl rfl ?_
        show Steps p.tables e below (T81.setTop (mkF m 101 #[.val (.int p0_0), .val (.int p0_1), .val (.int p0_2), .val (.int p0_3), .val (.int NN), .val (.int OFF), .val (.int RM), .val (.int KK), .val (.int (bI (¬ ((p0_3 &&& (1 : Int32)) = (0 : Int32))))), .val (.ref b14), .val (.ref b18), .val (.int (bI (OFF = NN))), .unset, .unset, .unset] [])) _
        refine XS.goto X81.here hx rfl (pc0 := 101) (pc' := 112) rfl (hb hby at_101) (by decide) (by decide) ?_
        show Steps p.tables e below (T81.setTop (mkF m 112 #[.val (.int p0_0), .val (.int p0_1), .val (.int p0_2), .val (.int p0_3), .val (.int NN), .val (.int OFF), .val (.int RM), .val (.int KK), .val (.int (bI (¬ ((p0_3 &&& (1 : Int32)) = (0 : Int32))))), .val (.ref b14), .val (.ref b18), .val (.int (bI (OFF = NN))), .unset, .unset, .unset] [])) _
        refine XS.aload X81.here hx rfl (hb hby at_112) rfl rfl ?_
        show Steps p.tables e below (T81.setTop (mkF m 114 #[.val (.int p0_0), .val (.int p0_1), .val (.int p0_2), .val (.int p0_3), .val (.int NN), .val (.int OFF), .val (.int RM), .val (.int KK), .val (.int (bI (¬ ((p0_3 &&& (1 : Int32)) = (0 : Int32))))), .val (.ref b14), .val (.ref b18), .val (.int (bI (OFF = NN))), .unset, .unset, .unset] [(.ref b18)])) _
        refine st95.trans ?_
        exact k)
      have pre99 : ∀ t, Steps p.tables e below (T95.setTop (mkF m 123 #[.val (.int p0_0), .val (.int p0_1), .val (.int p0_2), .val (.int p0_3), .val (.int NN), .val (.int OFF), .val (.int RM), .val (.int KK), .val (.int (bI (¬ ((p0_3 &&& (1 : Int32)) = (0 : Int32))))), .val (.ref b14), .val (.ref b18), .val (.int (bI (OFF = NN))), .val (.int (bI (((OFF + (1 : Int32)) + (KK - (1 : Int32))) = NN))), .unset, .unset] [(.int NN), (.int OFF)])) t → Steps p.tables e below (s₁.setTop (entryFrame m #[(.int p0_0), (.int p0_1), (.int p0_2), (.int p0_3)] maxLocals)) t := fun t k => pre97 t (by
        show Steps p.tables e below (T95.setTop (mkF m 117 #[.val (.int p0_0), .val (.int p0_1), .val (.int p0_2), .val (.int p0_3), .val (.int NN), .val (.int OFF), .val (.int RM), .val (.int KK), .val (.int (bI (¬ ((p0_3 &&& (1 : Int32)) = (0 : Int32))))), .val (.ref b14), .val (.ref b18), .val (.int (bI (OFF = NN))), .unset, .unset, .unset] [(.int (bI (((OFF + (1 : Int32)) + (KK - (1 : Int32))) = NN)))])) _
        refine XS.istore X95.here hx rfl (hb hby at_117) rfl (l' := #[.val (.int p0_0), .val (.int p0_1), .val (.int p0_2), .val (.int p0_3), .val (.int NN), .val (.int OFF), .val (.int RM), .val (.int KK), .val (.int (bI (¬ ((p0_3 &&& (1 : Int32)) = (0 : Int32))))), .val (.ref b14), .val (.ref b18), .val (.int (bI (OFF = NN))), .val (.int (bI (((OFF + (1 : Int32)) + (KK - (1 : Int32))) = NN))), .unset, .unset]) rfl ?_
        show Steps p.tables e below (T95.setTop (mkF m 119 #[.val (.int p0_0), .val (.int p0_1), .val (.int p0_2), .val (.int p0_3), .val (.int NN), .val (.int OFF), .val (.int RM), .val (.int KK), .val (.int (bI (¬ ((p0_3 &&& (1 : Int32)) = (0 : Int32))))), .val (.ref b14), .val (.ref b18), .val (.int (bI (OFF = NN))), .val (.int (bI (((OFF + (1 : Int32)) + (KK - (1 : Int32))) = NN))), .unset, .unset] [])) _
        refine XS.iload X95.here hx rfl (hb hby at_119) rfl ?_
        show Steps p.tables e below (T95.setTop (mkF m 121 #[.val (.int p0_0), .val (.int p0_1), .val (.int p0_2), .val (.int p0_3), .val (.int NN), .val (.int OFF), .val (.int RM), .val (.int KK), .val (.int (bI (¬ ((p0_3 &&& (1 : Int32)) = (0 : Int32))))), .val (.ref b14), .val (.ref b18), .val (.int (bI (OFF = NN))), .val (.int (bI (((OFF + (1 : Int32)) + (KK - (1 : Int32))) = NN))), .unset, .unset] [(.int OFF)])) _
        refine XS.iload X95.here hx rfl (hb hby at_121) rfl ?_
        exact k)
      have pre100 : ∀ t, Steps p.tables e below (T95.setTop (mkF m 131 #[.val (.int p0_0), .val (.int p0_1), .val (.int p0_2), .val (.int p0_3), .val (.int NN), .val (.int OFF), .val (.int RM), .val (.int KK), .val (.int (bI (¬ ((p0_3 &&& (1 : Int32)) = (0 : Int32))))), .val (.ref b14), .val (.ref b18), .val (.int (bI (OFF = NN))), .val (.int (bI (((OFF + (1 : Int32)) + (KK - (1 : Int32))) = NN))), .unset, .unset] [(.int (bI (OFF = NN)))])) t → Steps p.tables e below (s₁.setTop (entryFrame m #[(.int p0_0), (.int p0_1), (.int p0_2), (.int p0_3)] maxLocals)) t := fun t k => pre99 t (by
        by_cases hc98 : OFF = NN
        · show Steps p.tables e below (T95.setTop (mkF m 123 #[.val (.int p0_0), .val (.int p0_1), .val (.int p0_2), .val (.int p0_3), .val (.int NN), .val (.int OFF), .val (.int RM), .val (.int KK), .val (.int (bI (¬ ((p0_3 &&& (1 : Int32)) = (0 : Int32))))), .val (.ref b14), .val (.ref b18), .val (.int (bI (OFF = NN))), .val (.int (bI (((OFF + (1 : Int32)) + (KK - (1 : Int32))) = NN))), .unset, .unset] [(.int NN), (.int OFF)])) _
          refine XS.icmpNo X95.here hx rfl (hb hby at_123) rfl (teq hc98).2 ?_
          show Steps p.tables e below (T95.setTop (mkF m 126 #[.val (.int p0_0), .val (.int p0_1), .val (.int p0_2), .val (.int p0_3), .val (.int NN), .val (.int OFF), .val (.int RM), .val (.int KK), .val (.int (bI (¬ ((p0_3 &&& (1 : Int32)) = (0 : Int32))))), .val (.ref b14), .val (.ref b18), .val (.int (bI (OFF = NN))), .val (.int (bI (((OFF + (1 : Int32)) + (KK - (1 : Int32))) = NN))), .unset, .unset] [])) _
          refine XS.iconst X95.here hx rfl (hb hby at_126) ?_
          show Steps p.tables e below (T95.setTop (mkF m 127 #[.val (.int p0_0), .val (.int p0_1), .val (.int p0_2), .val (.int p0_3), .val (.int NN), .val (.int OFF), .val (.int RM), .val (.int KK), .val (.int (bI (¬ ((p0_3 &&& (1 : Int32)) = (0 : Int32))))), .val (.ref b14), .val (.ref b18), .val (.int (bI (OFF = NN))), .val (.int (bI (((OFF + (1 : Int32)) + (KK - (1 : Int32))) = NN))), .unset, .unset] [(.int (1 : Int32))])) _
          refine XS.goto X95.here hx rfl (pc0 := 127) (pc' := 131) rfl (hb hby at_127) (by decide) (by decide) ?_
          have q101 : (bI (OFF = NN)) = (1 : Int32) := (bI_t hc98)
          exact castTop (g := (mkF m 131 #[.val (.int p0_0), .val (.int p0_1), .val (.int p0_2), .val (.int p0_3), .val (.int NN), .val (.int OFF), .val (.int RM), .val (.int KK), .val (.int (bI (¬ ((p0_3 &&& (1 : Int32)) = (0 : Int32))))), .val (.ref b14), .val (.ref b18), .val (.int (bI (OFF = NN))), .val (.int (bI (((OFF + (1 : Int32)) + (KK - (1 : Int32))) = NN))), .unset, .unset] [(.int (1 : Int32))])) (g' := (mkF m 131 #[.val (.int p0_0), .val (.int p0_1), .val (.int p0_2), .val (.int p0_3), .val (.int NN), .val (.int OFF), .val (.int RM), .val (.int KK), .val (.int (bI (¬ ((p0_3 &&& (1 : Int32)) = (0 : Int32))))), .val (.ref b14), .val (.ref b18), .val (.int (bI (OFF = NN))), .val (.int (bI (((OFF + (1 : Int32)) + (KK - (1 : Int32))) = NN))), .unset, .unset] [(.int (bI (OFF = NN)))])) (by simp only [q101]) k
        · show Steps p.tables e below (T95.setTop (mkF m 123 #[.val (.int p0_0), .val (.int p0_1), .val (.int p0_2), .val (.int p0_3), .val (.int NN), .val (.int OFF), .val (.int RM), .val (.int KK), .val (.int (bI (¬ ((p0_3 &&& (1 : Int32)) = (0 : Int32))))), .val (.ref b14), .val (.ref b18), .val (.int (bI (OFF = NN))), .val (.int (bI (((OFF + (1 : Int32)) + (KK - (1 : Int32))) = NN))), .unset, .unset] [(.int NN), (.int OFF)])) _
          refine XS.icmpYes X95.here hx rfl (pc0 := 123) (pc' := 130) rfl (hb hby at_123) rfl (feq hc98).2 (by decide) (by decide) ?_
          show Steps p.tables e below (T95.setTop (mkF m 130 #[.val (.int p0_0), .val (.int p0_1), .val (.int p0_2), .val (.int p0_3), .val (.int NN), .val (.int OFF), .val (.int RM), .val (.int KK), .val (.int (bI (¬ ((p0_3 &&& (1 : Int32)) = (0 : Int32))))), .val (.ref b14), .val (.ref b18), .val (.int (bI (OFF = NN))), .val (.int (bI (((OFF + (1 : Int32)) + (KK - (1 : Int32))) = NN))), .unset, .unset] [])) _
          refine XS.iconst X95.here hx rfl (hb hby at_130) ?_
          have q102 : (bI (OFF = NN)) = (0 : Int32) := (bI_f hc98)
          exact castTop (g := (mkF m 131 #[.val (.int p0_0), .val (.int p0_1), .val (.int p0_2), .val (.int p0_3), .val (.int NN), .val (.int OFF), .val (.int RM), .val (.int KK), .val (.int (bI (¬ ((p0_3 &&& (1 : Int32)) = (0 : Int32))))), .val (.ref b14), .val (.ref b18), .val (.int (bI (OFF = NN))), .val (.int (bI (((OFF + (1 : Int32)) + (KK - (1 : Int32))) = NN))), .unset, .unset] [(.int (0 : Int32))])) (g' := (mkF m 131 #[.val (.int p0_0), .val (.int p0_1), .val (.int p0_2), .val (.int p0_3), .val (.int NN), .val (.int OFF), .val (.int RM), .val (.int KK), .val (.int (bI (¬ ((p0_3 &&& (1 : Int32)) = (0 : Int32))))), .val (.ref b14), .val (.ref b18), .val (.int (bI (OFF = NN))), .val (.int (bI (((OFF + (1 : Int32)) + (KK - (1 : Int32))) = NN))), .unset, .unset] [(.int (bI (OFF = NN)))])) (by simp only [q102]) k)
      have pre104 : ∀ t, Steps p.tables e below (T95.setTop (mkF m 140 #[.val (.int p0_0), .val (.int p0_1), .val (.int p0_2), .val (.int p0_3), .val (.int NN), .val (.int OFF), .val (.int RM), .val (.int KK), .val (.int (bI (¬ ((p0_3 &&& (1 : Int32)) = (0 : Int32))))), .val (.ref b14), .val (.ref b18), .val (.int (bI (OFF = NN))), .val (.int (bI (((OFF + (1 : Int32)) + (KK - (1 : Int32))) = NN))), .val (.int (bI (OFF = NN))), .unset] [(.int NN), (.int (OFF + KK))])) t → Steps p.tables e below (s₁.setTop (entryFrame m #[(.int p0_0), (.int p0_1), (.int p0_2), (.int p0_3)] maxLocals)) t := fun t k => pre100 t (by
        show Steps p.tables e below (T95.setTop (mkF m 131 #[.val (.int p0_0), .val (.int p0_1), .val (.int p0_2), .val (.int p0_3), .val (.int NN), .val (.int OFF), .val (.int RM), .val (.int KK), .val (.int (bI (¬ ((p0_3 &&& (1 : Int32)) = (0 : Int32))))), .val (.ref b14), .val (.ref b18), .val (.int (bI (OFF = NN))), .val (.int (bI (((OFF + (1 : Int32)) + (KK - (1 : Int32))) = NN))), .unset, .unset] [(.int (bI (OFF = NN)))])) _
        refine XS.istore X95.here hx rfl (hb hby at_131) rfl (l' := #[.val (.int p0_0), .val (.int p0_1), .val (.int p0_2), .val (.int p0_3), .val (.int NN), .val (.int OFF), .val (.int RM), .val (.int KK), .val (.int (bI (¬ ((p0_3 &&& (1 : Int32)) = (0 : Int32))))), .val (.ref b14), .val (.ref b18), .val (.int (bI (OFF = NN))), .val (.int (bI (((OFF + (1 : Int32)) + (KK - (1 : Int32))) = NN))), .val (.int (bI (OFF = NN))), .unset]) rfl ?_
        show Steps p.tables e below (T95.setTop (mkF m 133 #[.val (.int p0_0), .val (.int p0_1), .val (.int p0_2), .val (.int p0_3), .val (.int NN), .val (.int OFF), .val (.int RM), .val (.int KK), .val (.int (bI (¬ ((p0_3 &&& (1 : Int32)) = (0 : Int32))))), .val (.ref b14), .val (.ref b18), .val (.int (bI (OFF = NN))), .val (.int (bI (((OFF + (1 : Int32)) + (KK - (1 : Int32))) = NN))), .val (.int (bI (OFF = NN))), .unset] [])) _
        refine XS.iload X95.here hx rfl (hb hby at_133) rfl ?_
        show Steps p.tables e below (T95.setTop (mkF m 135 #[.val (.int p0_0), .val (.int p0_1), .val (.int p0_2), .val (.int p0_3), .val (.int NN), .val (.int OFF), .val (.int RM), .val (.int KK), .val (.int (bI (¬ ((p0_3 &&& (1 : Int32)) = (0 : Int32))))), .val (.ref b14), .val (.ref b18), .val (.int (bI (OFF = NN))), .val (.int (bI (((OFF + (1 : Int32)) + (KK - (1 : Int32))) = NN))), .val (.int (bI (OFF = NN))), .unset] [(.int OFF)])) _
        refine XS.iload X95.here hx rfl (hb hby at_135) rfl ?_
        show Steps p.tables e below (T95.setTop (mkF m 137 #[.val (.int p0_0), .val (.int p0_1), .val (.int p0_2), .val (.int p0_3), .val (.int NN), .val (.int OFF), .val (.int RM), .val (.int KK), .val (.int (bI (¬ ((p0_3 &&& (1 : Int32)) = (0 : Int32))))), .val (.ref b14), .val (.ref b18), .val (.int (bI (OFF = NN))), .val (.int (bI (((OFF + (1 : Int32)) + (KK - (1 : Int32))) = NN))), .val (.int (bI (OFF = NN))), .unset] [(.int KK), (.int OFF)])) _
        refine XS.iadd X95.here hx rfl (hb hby at_137) rfl ?_
        show Steps p.tables e below (T95.setTop (mkF m 138 #[.val (.int p0_0), .val (.int p0_1), .val (.int p0_2), .val (.int p0_3), .val (.int NN), .val (.int OFF), .val (.int RM), .val (.int KK), .val (.int (bI (¬ ((p0_3 &&& (1 : Int32)) = (0 : Int32))))), .val (.ref b14), .val (.ref b18), .val (.int (bI (OFF = NN))), .val (.int (bI (((OFF + (1 : Int32)) + (KK - (1 : Int32))) = NN))), .val (.int (bI (OFF = NN))), .unset] [(.int (OFF + KK))])) _
        refine XS.iload X95.here hx rfl (hb hby at_138) rfl ?_
        exact k)
      have pre105 : ∀ t, Steps p.tables e below (T95.setTop (mkF m 148 #[.val (.int p0_0), .val (.int p0_1), .val (.int p0_2), .val (.int p0_3), .val (.int NN), .val (.int OFF), .val (.int RM), .val (.int KK), .val (.int (bI (¬ ((p0_3 &&& (1 : Int32)) = (0 : Int32))))), .val (.ref b14), .val (.ref b18), .val (.int (bI (OFF = NN))), .val (.int (bI (((OFF + (1 : Int32)) + (KK - (1 : Int32))) = NN))), .val (.int (bI (OFF = NN))), .unset] [(.int (bI ((OFF + KK) = NN)))])) t → Steps p.tables e below (s₁.setTop (entryFrame m #[(.int p0_0), (.int p0_1), (.int p0_2), (.int p0_3)] maxLocals)) t := fun t k => pre104 t (by
        by_cases hc103 : (OFF + KK) = NN
        · show Steps p.tables e below (T95.setTop (mkF m 140 #[.val (.int p0_0), .val (.int p0_1), .val (.int p0_2), .val (.int p0_3), .val (.int NN), .val (.int OFF), .val (.int RM), .val (.int KK), .val (.int (bI (¬ ((p0_3 &&& (1 : Int32)) = (0 : Int32))))), .val (.ref b14), .val (.ref b18), .val (.int (bI (OFF = NN))), .val (.int (bI (((OFF + (1 : Int32)) + (KK - (1 : Int32))) = NN))), .val (.int (bI (OFF = NN))), .unset] [(.int NN), (.int (OFF + KK))])) _
          refine XS.icmpNo X95.here hx rfl (hb hby at_140) rfl (teq hc103).2 ?_
          show Steps p.tables e below (T95.setTop (mkF m 143 #[.val (.int p0_0), .val (.int p0_1), .val (.int p0_2), .val (.int p0_3), .val (.int NN), .val (.int OFF), .val (.int RM), .val (.int KK), .val (.int (bI (¬ ((p0_3 &&& (1 : Int32)) = (0 : Int32))))), .val (.ref b14), .val (.ref b18), .val (.int (bI (OFF = NN))), .val (.int (bI (((OFF + (1 : Int32)) + (KK - (1 : Int32))) = NN))), .val (.int (bI (OFF = NN))), .unset] [])) _
          refine XS.iconst X95.here hx rfl (hb hby at_143) ?_
          show Steps p.tables e below (T95.setTop (mkF m 144 #[.val (.int p0_0), .val (.int p0_1), .val (.int p0_2), .val (.int p0_3), .val (.int NN), .val (.int OFF), .val (.int RM), .val (.int KK), .val (.int (bI (¬ ((p0_3 &&& (1 : Int32)) = (0 : Int32))))), .val (.ref b14), .val (.ref b18), .val (.int (bI (OFF = NN))), .val (.int (bI (((OFF + (1 : Int32)) + (KK - (1 : Int32))) = NN))), .val (.int (bI (OFF = NN))), .unset] [(.int (1 : Int32))])) _
          refine XS.goto X95.here hx rfl (pc0 := 144) (pc' := 148) rfl (hb hby at_144) (by decide) (by decide) ?_
          have q106 : (bI ((OFF + KK) = NN)) = (1 : Int32) := (bI_t hc103)
          exact castTop (g := (mkF m 148 #[.val (.int p0_0), .val (.int p0_1), .val (.int p0_2), .val (.int p0_3), .val (.int NN), .val (.int OFF), .val (.int RM), .val (.int KK), .val (.int (bI (¬ ((p0_3 &&& (1 : Int32)) = (0 : Int32))))), .val (.ref b14), .val (.ref b18), .val (.int (bI (OFF = NN))), .val (.int (bI (((OFF + (1 : Int32)) + (KK - (1 : Int32))) = NN))), .val (.int (bI (OFF = NN))), .unset] [(.int (1 : Int32))])) (g' := (mkF m 148 #[.val (.int p0_0), .val (.int p0_1), .val (.int p0_2), .val (.int p0_3), .val (.int NN), .val (.int OFF), .val (.int RM), .val (.int KK), .val (.int (bI (¬ ((p0_3 &&& (1 : Int32)) = (0 : Int32))))), .val (.ref b14), .val (.ref b18), .val (.int (bI (OFF = NN))), .val (.int (bI (((OFF + (1 : Int32)) + (KK - (1 : Int32))) = NN))), .val (.int (bI (OFF = NN))), .unset] [(.int (bI ((OFF + KK) = NN)))])) (by simp only [q106]) k
        · show Steps p.tables e below (T95.setTop (mkF m 140 #[.val (.int p0_0), .val (.int p0_1), .val (.int p0_2), .val (.int p0_3), .val (.int NN), .val (.int OFF), .val (.int RM), .val (.int KK), .val (.int (bI (¬ ((p0_3 &&& (1 : Int32)) = (0 : Int32))))), .val (.ref b14), .val (.ref b18), .val (.int (bI (OFF = NN))), .val (.int (bI (((OFF + (1 : Int32)) + (KK - (1 : Int32))) = NN))), .val (.int (bI (OFF = NN))), .unset] [(.int NN), (.int (OFF + KK))])) _
          refine XS.icmpYes X95.here hx rfl (pc0 := 140) (pc' := 147) rfl (hb hby at_140) rfl (feq hc103).2 (by decide) (by decide) ?_
          show Steps p.tables e below (T95.setTop (mkF m 147 #[.val (.int p0_0), .val (.int p0_1), .val (.int p0_2), .val (.int p0_3), .val (.int NN), .val (.int OFF), .val (.int RM), .val (.int KK), .val (.int (bI (¬ ((p0_3 &&& (1 : Int32)) = (0 : Int32))))), .val (.ref b14), .val (.ref b18), .val (.int (bI (OFF = NN))), .val (.int (bI (((OFF + (1 : Int32)) + (KK - (1 : Int32))) = NN))), .val (.int (bI (OFF = NN))), .unset] [])) _
          refine XS.iconst X95.here hx rfl (hb hby at_147) ?_
          have q107 : (bI ((OFF + KK) = NN)) = (0 : Int32) := (bI_f hc103)
          exact castTop (g := (mkF m 148 #[.val (.int p0_0), .val (.int p0_1), .val (.int p0_2), .val (.int p0_3), .val (.int NN), .val (.int OFF), .val (.int RM), .val (.int KK), .val (.int (bI (¬ ((p0_3 &&& (1 : Int32)) = (0 : Int32))))), .val (.ref b14), .val (.ref b18), .val (.int (bI (OFF = NN))), .val (.int (bI (((OFF + (1 : Int32)) + (KK - (1 : Int32))) = NN))), .val (.int (bI (OFF = NN))), .unset] [(.int (0 : Int32))])) (g' := (mkF m 148 #[.val (.int p0_0), .val (.int p0_1), .val (.int p0_2), .val (.int p0_3), .val (.int NN), .val (.int OFF), .val (.int RM), .val (.int KK), .val (.int (bI (¬ ((p0_3 &&& (1 : Int32)) = (0 : Int32))))), .val (.ref b14), .val (.ref b18), .val (.int (bI (OFF = NN))), .val (.int (bI (((OFF + (1 : Int32)) + (KK - (1 : Int32))) = NN))), .val (.int (bI (OFF = NN))), .unset] [(.int (bI ((OFF + KK) = NN)))])) (by simp only [q107]) k)
      have hd108 : (bI (((OFF + (1 : Int32)) + (KK - (1 : Int32))) = NN)) = (bI ((OFF + KK) = NN)) := by
        exact own_fin _ _ _
      obtain ⟨fs, hr, hrun, hended, hW, hsame⟩ := X95.leave (v := some (.int (1 : Int32))) (fun h => by rw [Bd.returns] at h; cases h)
      refine ⟨_, _, pre105 _ ?_, hrun, hended, _, _, rfl, ?_, ⟨_, rfl⟩, hW, hsame.mono (by decide) (by decide)⟩
      · show Steps p.tables e below (T95.setTop (mkF m 148 #[.val (.int p0_0), .val (.int p0_1), .val (.int p0_2), .val (.int p0_3), .val (.int NN), .val (.int OFF), .val (.int RM), .val (.int KK), .val (.int (bI (¬ ((p0_3 &&& (1 : Int32)) = (0 : Int32))))), .val (.ref b14), .val (.ref b18), .val (.int (bI (OFF = NN))), .val (.int (bI (((OFF + (1 : Int32)) + (KK - (1 : Int32))) = NN))), .val (.int (bI (OFF = NN))), .unset] [(.int (bI ((OFF + KK) = NN)))])) _
        refine XS.istore X95.here hx rfl (hb hby at_148) rfl (l' := #[.val (.int p0_0), .val (.int p0_1), .val (.int p0_2), .val (.int p0_3), .val (.int NN), .val (.int OFF), .val (.int RM), .val (.int KK), .val (.int (bI (¬ ((p0_3 &&& (1 : Int32)) = (0 : Int32))))), .val (.ref b14), .val (.ref b18), .val (.int (bI (OFF = NN))), .val (.int (bI (((OFF + (1 : Int32)) + (KK - (1 : Int32))) = NN))), .val (.int (bI (OFF = NN))), .val (.int (bI ((OFF + KK) = NN)))]) rfl ?_
        show Steps p.tables e below (T95.setTop (mkF m 150 #[.val (.int p0_0), .val (.int p0_1), .val (.int p0_2), .val (.int p0_3), .val (.int NN), .val (.int OFF), .val (.int RM), .val (.int KK), .val (.int (bI (¬ ((p0_3 &&& (1 : Int32)) = (0 : Int32))))), .val (.ref b14), .val (.ref b18), .val (.int (bI (OFF = NN))), .val (.int (bI (((OFF + (1 : Int32)) + (KK - (1 : Int32))) = NN))), .val (.int (bI (OFF = NN))), .val (.int (bI ((OFF + KK) = NN)))] [])) _
        refine XS.iload X95.here hx rfl (hb hby at_150) rfl ?_
        show Steps p.tables e below (T95.setTop (mkF m 152 #[.val (.int p0_0), .val (.int p0_1), .val (.int p0_2), .val (.int p0_3), .val (.int NN), .val (.int OFF), .val (.int RM), .val (.int KK), .val (.int (bI (¬ ((p0_3 &&& (1 : Int32)) = (0 : Int32))))), .val (.ref b14), .val (.ref b18), .val (.int (bI (OFF = NN))), .val (.int (bI (((OFF + (1 : Int32)) + (KK - (1 : Int32))) = NN))), .val (.int (bI (OFF = NN))), .val (.int (bI ((OFF + KK) = NN)))] [(.int (bI (OFF = NN)))])) _
        refine XS.iload X95.here hx rfl (hb hby at_152) rfl ?_
        show Steps p.tables e below (T95.setTop (mkF m 154 #[.val (.int p0_0), .val (.int p0_1), .val (.int p0_2), .val (.int p0_3), .val (.int NN), .val (.int OFF), .val (.int RM), .val (.int KK), .val (.int (bI (¬ ((p0_3 &&& (1 : Int32)) = (0 : Int32))))), .val (.ref b14), .val (.ref b18), .val (.int (bI (OFF = NN))), .val (.int (bI (((OFF + (1 : Int32)) + (KK - (1 : Int32))) = NN))), .val (.int (bI (OFF = NN))), .val (.int (bI ((OFF + KK) = NN)))] [(.int (bI (OFF = NN))), (.int (bI (OFF = NN)))])) _
        refine XS.icmpNo X95.here hx rfl (hb hby at_154) rfl (teq (rfl : (bI (OFF = NN)) = (bI (OFF = NN)))).2 ?_
        show Steps p.tables e below (T95.setTop (mkF m 157 #[.val (.int p0_0), .val (.int p0_1), .val (.int p0_2), .val (.int p0_3), .val (.int NN), .val (.int OFF), .val (.int RM), .val (.int KK), .val (.int (bI (¬ ((p0_3 &&& (1 : Int32)) = (0 : Int32))))), .val (.ref b14), .val (.ref b18), .val (.int (bI (OFF = NN))), .val (.int (bI (((OFF + (1 : Int32)) + (KK - (1 : Int32))) = NN))), .val (.int (bI (OFF = NN))), .val (.int (bI ((OFF + KK) = NN)))] [])) _
        refine XS.iload X95.here hx rfl (hb hby at_157) rfl ?_
        show Steps p.tables e below (T95.setTop (mkF m 159 #[.val (.int p0_0), .val (.int p0_1), .val (.int p0_2), .val (.int p0_3), .val (.int NN), .val (.int OFF), .val (.int RM), .val (.int KK), .val (.int (bI (¬ ((p0_3 &&& (1 : Int32)) = (0 : Int32))))), .val (.ref b14), .val (.ref b18), .val (.int (bI (OFF = NN))), .val (.int (bI (((OFF + (1 : Int32)) + (KK - (1 : Int32))) = NN))), .val (.int (bI (OFF = NN))), .val (.int (bI ((OFF + KK) = NN)))] [(.int (bI (((OFF + (1 : Int32)) + (KK - (1 : Int32))) = NN)))])) _
        refine XS.iload X95.here hx rfl (hb hby at_159) rfl ?_
        show Steps p.tables e below (T95.setTop (mkF m 161 #[.val (.int p0_0), .val (.int p0_1), .val (.int p0_2), .val (.int p0_3), .val (.int NN), .val (.int OFF), .val (.int RM), .val (.int KK), .val (.int (bI (¬ ((p0_3 &&& (1 : Int32)) = (0 : Int32))))), .val (.ref b14), .val (.ref b18), .val (.int (bI (OFF = NN))), .val (.int (bI (((OFF + (1 : Int32)) + (KK - (1 : Int32))) = NN))), .val (.int (bI (OFF = NN))), .val (.int (bI ((OFF + KK) = NN)))] [(.int (bI ((OFF + KK) = NN))), (.int (bI (((OFF + (1 : Int32)) + (KK - (1 : Int32))) = NN)))])) _
        refine XS.icmpNo X95.here hx rfl (hb hby at_161) rfl (teq hd108).2 ?_
        show Steps p.tables e below (T95.setTop (mkF m 164 #[.val (.int p0_0), .val (.int p0_1), .val (.int p0_2), .val (.int p0_3), .val (.int NN), .val (.int OFF), .val (.int RM), .val (.int KK), .val (.int (bI (¬ ((p0_3 &&& (1 : Int32)) = (0 : Int32))))), .val (.ref b14), .val (.ref b18), .val (.int (bI (OFF = NN))), .val (.int (bI (((OFF + (1 : Int32)) + (KK - (1 : Int32))) = NN))), .val (.int (bI (OFF = NN))), .val (.int (bI ((OFF + KK) = NN)))] [])) _
        refine XS.iconst X95.here hx rfl (hb hby at_164) ?_
        show Steps p.tables e below (T95.setTop (mkF m 165 #[.val (.int p0_0), .val (.int p0_1), .val (.int p0_2), .val (.int p0_3), .val (.int NN), .val (.int OFF), .val (.int RM), .val (.int KK), .val (.int (bI (¬ ((p0_3 &&& (1 : Int32)) = (0 : Int32))))), .val (.ref b14), .val (.ref b18), .val (.int (bI (OFF = NN))), .val (.int (bI (((OFF + (1 : Int32)) + (KK - (1 : Int32))) = NN))), .val (.int (bI (OFF = NN))), .val (.int (bI ((OFF + KK) = NN)))] [(.int (1 : Int32))])) _
        refine XS.goto X95.here hx rfl (pc0 := 165) (pc' := 169) rfl (hb hby at_165) (by decide) (by decide) ?_
        show Steps p.tables e below (T95.setTop (mkF m 169 #[.val (.int p0_0), .val (.int p0_1), .val (.int p0_2), .val (.int p0_3), .val (.int NN), .val (.int OFF), .val (.int RM), .val (.int KK), .val (.int (bI (¬ ((p0_3 &&& (1 : Int32)) = (0 : Int32))))), .val (.ref b14), .val (.ref b18), .val (.int (bI (OFF = NN))), .val (.int (bI (((OFF + (1 : Int32)) + (KK - (1 : Int32))) = NN))), .val (.int (bI (OFF = NN))), .val (.int (bI ((OFF + KK) = NN)))] [(.int (1 : Int32))])) _
        exact retN X95 hx (t := .boolean) Bd.returns (by simp) (hb hby at_169) hr
      · show Q0 Z p0_0 p0_1 p0_2 p0_3 h0 n0 _ T95.heap _
        rw [e95]
        exact ⟨rfl, N96⟩
  · obtain ⟨b110, g110⟩ : ∃ z, z = T27.heap.size := ⟨_, rfl⟩
    have gz110 : n0 ≤ b110 := Nat.le_trans z35 (Nat.le_of_eq g110.symm)
    have ne111 : b14 ≠ b110 := Nat.ne_of_lt (Nat.lt_of_lt_of_le f32.lt (Nat.le_of_eq g110.symm))
    have ne112 : b18 ≠ b110 := Nat.ne_of_lt (Nat.lt_of_lt_of_le r27_0.lt (Nat.le_of_eq g110.symm))
    have hq113 : 0 ≤ OFF.toInt := by
      exact hOFF0.1
    have hq114 : 0 ≤ KK.toInt := by
      exact hKK0.1
    have hq115 : OFF.toInt + KK.toInt ≤ NN.toInt := by
      omega
    have hq116 : NN.toInt ≤ 7 := by
      exact hNN0.2
    obtain ⟨cq109, kq109, q109a, q109b, q109c⟩ := isOf hZ e36 r27_0
    obtain ⟨_, _, ⟨T109, L109, k109, n109⟩, -, X109, ⟨Lc109, hQ109, l109, y109, z109⟩, st109⟩ := X36.virtualBack hx (y := (⟨"com/example/libmosaic/libmosaic/encoding/ByteReader", "read", "(I)[B"⟩ : MethodName)) (z := (⟨"com/example/libmosaic/libmosaic/encoding/ByteReader", "read", "(I)[B"⟩ : MethodName)) hown (mvT hZ (hVV 20 _ rfl)) (mvT hZ (hVV 21 _ rfl)) (notFace_of_selects (args := #[]) (mvT hZ (hVV 23 _ rfl))) (mvT hZ (hVV 23 _ rfl)) (mvT hZ (hVV 22 _ rfl)) (by decide) (backOf (W := 0) (rm4 l Z a0 hw [] b18 KK b14 OFF k14 NN b110 T27.heap n0 z35 r27_2 r27_3 r27_1 f33 f32 g110 hq113 hq114 hq115 hq116 ne19 r27_0 gz18) hZ (hVV 24 _ rfl) (hVV 4 _ rfl) (by decide) (by decide)) q109a q109c (g := (mkF m 108 #[.val (.int p0_0), .val (.int p0_1), .val (.int p0_2), .val (.int p0_3), .val (.int NN), .val (.int OFF), .val (.int RM), .val (.int KK), .val (.int (bI (¬ ((p0_3 &&& (1 : Int32)) = (0 : Int32))))), .val (.ref b14), .val (.ref b18), .val (.int (bI (OFF = NN))), .unset, .unset, .unset] [(.int KK), (.ref b18)])) rfl (by rw [hml]; rfl) (Steps.refl _) (argsL := [(.int KK)]) (rest := []) (lenOf pd_6 rfl) rfl (by show 2 * 0 + _ ≤ _; exact Nat.le_of_eq rfl) (hb hby at_108) (fun _ _ => ⟨rfl, e36, (by decide : 2 + 1 ≤ _), (by decide : 10 + 7 ≤ _)⟩)
    dsimp only [Pt.U, Pt.locs, Pt.cells, Pt.slots] at X109 l109 y109 z109 st109 hQ109
    subst l109 y109 z109
    obtain ⟨rfl, N109q, K109, r109_0, r109_1, r109_2, r109_3⟩ := hQ109
    have N117 := Fr.app N37 N109q
    have pre118 : ∀ t, Steps p.tables e below (T109.setTop (mkF m 111 #[.val (.int p0_0), .val (.int p0_1), .val (.int p0_2), .val (.int p0_3), .val (.int NN), .val (.int OFF), .val (.int RM), .val (.int KK), .val (.int (bI (¬ ((p0_3 &&& (1 : Int32)) = (0 : Int32))))), .val (.ref b14), .val (.ref b18), .val (.int (bI (OFF = NN))), .unset, .unset, .unset] [(.ref b110)])) t → Steps p.tables e below (s₁.setTop (entryFrame m #[(.int p0_0), (.int p0_1), (.int p0_2), (.int p0_3)] maxLocals)) t := fun t k => pre38 t (by
      show Steps p.tables e below (T36.setTop (mkF m 72 #[.val (.int p0_0), .val (.int p0_1), .val (.int p0_2), .val (.int p0_3), .val (.int NN), .val (.int OFF), .val (.int RM), .val (.int KK), .val (.int (bI (¬ ((p0_3 &&& (1 : Int32)) = (0 : Int32))))), .val (.ref b14), .val (.ref b18), .unset, .unset, .unset, .unset] [(.int (bI (OFF = NN)))])) _
      refine XS.istore X36.here hx rfl (hb hby at_72) rfl (l' := #[.val (.int p0_0), .val (.int p0_1), .val (.int p0_2), .val (.int p0_3), .val (.int NN), .val (.int OFF), .val (.int RM), .val (.int KK), .val (.int (bI (¬ ((p0_3 &&& (1 : Int32)) = (0 : Int32))))), .val (.ref b14), .val (.ref b18), .val (.int (bI (OFF = NN))), .unset, .unset, .unset]) rfl ?_
      show Steps p.tables e below (T36.setTop (mkF m 74 #[.val (.int p0_0), .val (.int p0_1), .val (.int p0_2), .val (.int p0_3), .val (.int NN), .val (.int OFF), .val (.int RM), .val (.int KK), .val (.int (bI (¬ ((p0_3 &&& (1 : Int32)) = (0 : Int32))))), .val (.ref b14), .val (.ref b18), .val (.int (bI (OFF = NN))), .unset, .unset, .unset] [])) _
      refine XS.iload X36.here hx rfl (hb hby at_74) rfl ?_
      show Steps p.tables e below (T36.setTop (mkF m 76 #[.val (.int p0_0), .val (.int p0_1), .val (.int p0_2), .val (.int p0_3), .val (.int NN), .val (.int OFF), .val (.int RM), .val (.int KK), .val (.int (bI (¬ ((p0_3 &&& (1 : Int32)) = (0 : Int32))))), .val (.ref b14), .val (.ref b18), .val (.int (bI (OFF = NN))), .unset, .unset, .unset] [(.int (bI (¬ ((p0_3 &&& (1 : Int32)) = (0 : Int32)))))])) _
      refine XS.ifYes X36.here hx rfl (pc0 := 76) (pc' := 104) rfl (hb hby at_76) rfl ((if0 _ _).trans (teq (bI_f hc41)).1) (by decide) (by decide) ?_
      show Steps p.tables e below (T36.setTop (mkF m 104 #[.val (.int p0_0), .val (.int p0_1), .val (.int p0_2), .val (.int p0_3), .val (.int NN), .val (.int OFF), .val (.int RM), .val (.int KK), .val (.int (bI (¬ ((p0_3 &&& (1 : Int32)) = (0 : Int32))))), .val (.ref b14), .val (.ref b18), .val (.int (bI (OFF = NN))), .unset, .unset, .unset] [])) _
      refine XS.aload X36.here hx rfl (hb hby at_104) rfl rfl ?_
      show Steps p.tables e below (T36.setTop (mkF m 106 #[.val (.int p0_0), .val (.int p0_1), .val (.int p0_2), .val (.int p0_3), .val (.int NN), .val (.int OFF), .val (.int RM), .val (.int KK), .val (.int (bI (¬ ((p0_3 &&& (1 : Int32)) = (0 : Int32))))), .val (.ref b14), .val (.ref b18), .val (.int (bI (OFF = NN))), .unset, .unset, .unset] [(.ref b18)])) _
      refine XS.iload X36.here hx rfl (hb hby at_106) rfl ?_
      show Steps p.tables e below (T36.setTop (mkF m 108 #[.val (.int p0_0), .val (.int p0_1), .val (.int p0_2), .val (.int p0_3), .val (.int NN), .val (.int OFF), .val (.int RM), .val (.int KK), .val (.int (bI (¬ ((p0_3 &&& (1 : Int32)) = (0 : Int32))))), .val (.ref b14), .val (.ref b18), .val (.int (bI (OFF = NN))), .unset, .unset, .unset] [(.int KK), (.ref b18)])) _
      refine st109.trans ?_
      exact k)
    have f119 := f32.keep K109
    have f120 := f33.keep K109 (ninS ne19 nin0)
    have f121 := r27_0.keep K109
    have z122 := Nat.le_trans z35 K109.1
    obtain ⟨cq123, kq123, q123a, q123b, q123c⟩ := isOf hZ rfl r109_0
    obtain ⟨_, _, ⟨T123, L123, k123, n123⟩, -, X123, ⟨Lc123, hQ123, l123, y123, z123⟩, st123⟩ := X109.virtualBack hx (y := (⟨"com/example/libmosaic/libmosaic/encoding/ByteReader", "atEnd", "()Z"⟩ : MethodName)) (z := (⟨"com/example/libmosaic/libmosaic/encoding/ByteReader", "atEnd", "()Z"⟩ : MethodName)) hown (mvT hZ (hVV 15 _ rfl)) (mvT hZ (hVV 16 _ rfl)) (notFace_of_selects (args := #[]) (mvT hZ (hVV 18 _ rfl))) (mvT hZ (hVV 18 _ rfl)) (mvT hZ (hVV 17 _ rfl)) (by decide) (backOf (W := 0) (rm3 l Z a0 hw [] b18 b14 (OFF + KK) k14 NN T109.heap n0 z122 r109_1 r109_3 f120 f119 ne19) hZ (hVV 19 _ rfl) (hVV 4 _ rfl) (by decide) (by decide)) q123a q123c (g := (mkF m 114 #[.val (.int p0_0), .val (.int p0_1), .val (.int p0_2), .val (.int p0_3), .val (.int NN), .val (.int OFF), .val (.int RM), .val (.int KK), .val (.int (bI (¬ ((p0_3 &&& (1 : Int32)) = (0 : Int32))))), .val (.ref b14), .val (.ref b18), .val (.int (bI (OFF = NN))), .unset, .unset, .unset] [(.ref b18)])) rfl (by rw [hml]; rfl) (Steps.refl _) (argsL := []) (rest := []) (lenOf pd_5 rfl) rfl (by show 2 * 0 + _ ≤ _; exact Nat.le_of_eq rfl) (hb hby at_114) (fun _ _ => ⟨rfl, rfl, (by decide : 3 + 0 ≤ _), (by decide : 17 + 0 ≤ _)⟩)
    dsimp only [Pt.U, Pt.locs, Pt.cells, Pt.slots] at X123 l123 y123 z123 st123 hQ123
    subst l123 y123 z123
    obtain ⟨rfl, N123q, e123⟩ := hQ123
    have N124 := Fr.app N117 N123q
    have pre125 : ∀ t, Steps p.tables e below (T123.setTop (mkF m 117 #[.val (.int p0_0), .val (.int p0_1), .val (.int p0_2), .val (.int p0_3), .val (.int NN), .val (.int OFF), .val (.int RM), .val (.int KK), .val (.int (bI (¬ ((p0_3 &&& (1 : Int32)) = (0 : Int32))))), .val (.ref b14), .val (.ref b18), .val (.int (bI (OFF = NN))), .unset, .unset, .unset] [(.int (bI ((OFF + KK) = NN)))])) t → Steps p.tables e below (s₁.setTop (entryFrame m #[(.int p0_0), (.int p0_1), (.int p0_2), (.int p0_3)] maxLocals)) t := fun t k => pre118 t (by
      show Steps p.tables e below (T109.setTop (mkF m 111 #[.val (.int p0_0), .val (.int p0_1), .val (.int p0_2), .val (.int p0_3), .val (.int NN), .val (.int OFF), .val (.int RM), .val (.int KK), .val (.int (bI (¬ ((p0_3 &&& (1 : Int32)) = (0 : Int32))))), .val (.ref b14), .val (.ref b18), .val (.int (bI (OFF = NN))), .unset, .unset, .unset] [(.ref b110)])) _
      refine XS.pop X109.here hx rfl (hb hby at_111) rfl rfl ?_
      show Steps p.tables e below (T109.setTop (mkF m 112 #[.val (.int p0_0), .val (.int p0_1), .val (.int p0_2), .val (.int p0_3), .val (.int NN), .val (.int OFF), .val (.int RM), .val (.int KK), .val (.int (bI (¬ ((p0_3 &&& (1 : Int32)) = (0 : Int32))))), .val (.ref b14), .val (.ref b18), .val (.int (bI (OFF = NN))), .unset, .unset, .unset] [])) _
      refine XS.aload X109.here hx rfl (hb hby at_112) rfl rfl ?_
      show Steps p.tables e below (T109.setTop (mkF m 114 #[.val (.int p0_0), .val (.int p0_1), .val (.int p0_2), .val (.int p0_3), .val (.int NN), .val (.int OFF), .val (.int RM), .val (.int KK), .val (.int (bI (¬ ((p0_3 &&& (1 : Int32)) = (0 : Int32))))), .val (.ref b14), .val (.ref b18), .val (.int (bI (OFF = NN))), .unset, .unset, .unset] [(.ref b18)])) _
      refine st123.trans ?_
      exact k)
    have pre127 : ∀ t, Steps p.tables e below (T123.setTop (mkF m 123 #[.val (.int p0_0), .val (.int p0_1), .val (.int p0_2), .val (.int p0_3), .val (.int NN), .val (.int OFF), .val (.int RM), .val (.int KK), .val (.int (bI (¬ ((p0_3 &&& (1 : Int32)) = (0 : Int32))))), .val (.ref b14), .val (.ref b18), .val (.int (bI (OFF = NN))), .val (.int (bI ((OFF + KK) = NN))), .unset, .unset] [(.int NN), (.int OFF)])) t → Steps p.tables e below (s₁.setTop (entryFrame m #[(.int p0_0), (.int p0_1), (.int p0_2), (.int p0_3)] maxLocals)) t := fun t k => pre125 t (by
      show Steps p.tables e below (T123.setTop (mkF m 117 #[.val (.int p0_0), .val (.int p0_1), .val (.int p0_2), .val (.int p0_3), .val (.int NN), .val (.int OFF), .val (.int RM), .val (.int KK), .val (.int (bI (¬ ((p0_3 &&& (1 : Int32)) = (0 : Int32))))), .val (.ref b14), .val (.ref b18), .val (.int (bI (OFF = NN))), .unset, .unset, .unset] [(.int (bI ((OFF + KK) = NN)))])) _
      refine XS.istore X123.here hx rfl (hb hby at_117) rfl (l' := #[.val (.int p0_0), .val (.int p0_1), .val (.int p0_2), .val (.int p0_3), .val (.int NN), .val (.int OFF), .val (.int RM), .val (.int KK), .val (.int (bI (¬ ((p0_3 &&& (1 : Int32)) = (0 : Int32))))), .val (.ref b14), .val (.ref b18), .val (.int (bI (OFF = NN))), .val (.int (bI ((OFF + KK) = NN))), .unset, .unset]) rfl ?_
      show Steps p.tables e below (T123.setTop (mkF m 119 #[.val (.int p0_0), .val (.int p0_1), .val (.int p0_2), .val (.int p0_3), .val (.int NN), .val (.int OFF), .val (.int RM), .val (.int KK), .val (.int (bI (¬ ((p0_3 &&& (1 : Int32)) = (0 : Int32))))), .val (.ref b14), .val (.ref b18), .val (.int (bI (OFF = NN))), .val (.int (bI ((OFF + KK) = NN))), .unset, .unset] [])) _
      refine XS.iload X123.here hx rfl (hb hby at_119) rfl ?_
      show Steps p.tables e below (T123.setTop (mkF m 121 #[.val (.int p0_0), .val (.int p0_1), .val (.int p0_2), .val (.int p0_3), .val (.int NN), .val (.int OFF), .val (.int RM), .val (.int KK), .val (.int (bI (¬ ((p0_3 &&& (1 : Int32)) = (0 : Int32))))), .val (.ref b14), .val (.ref b18), .val (.int (bI (OFF = NN))), .val (.int (bI ((OFF + KK) = NN))), .unset, .unset] [(.int OFF)])) _
      refine XS.iload X123.here hx rfl (hb hby at_121) rfl ?_
      exact k)
    have pre128 : ∀ t, Steps p.tables e below (T123.setTop (mkF m 131 #[.val (.int p0_0), .val (.int p0_1), .val (.int p0_2), .val (.int p0_3), .val (.int NN), .val (.int OFF), .val (.int RM), .val (.int KK), .val (.int (bI (¬ ((p0_3 &&& (1 : Int32)) = (0 : Int32))))), .val (.ref b14), .val (.ref b18), .val (.int (bI (OFF = NN))), .val (.int (bI ((OFF + KK) = NN))), .unset, .unset] [(.int (bI (OFF = NN)))])) t → Steps p.tables e below (s₁.setTop (entryFrame m #[(.int p0_0), (.int p0_1), (.int p0_2), (.int p0_3)] maxLocals)) t := fun t k => pre127 t (by
      by_cases hc126 : OFF = NN
      · show Steps p.tables e below (T123.setTop (mkF m 123 #[.val (.int p0_0), .val (.int p0_1), .val (.int p0_2), .val (.int p0_3), .val (.int NN), .val (.int OFF), .val (.int RM), .val (.int KK), .val (.int (bI (¬ ((p0_3 &&& (1 : Int32)) = (0 : Int32))))), .val (.ref b14), .val (.ref b18), .val (.int (bI (OFF = NN))), .val (.int (bI ((OFF + KK) = NN))), .unset, .unset] [(.int NN), (.int OFF)])) _
        refine XS.icmpNo X123.here hx rfl (hb hby at_123) rfl (teq hc126).2 ?_
        show Steps p.tables e below (T123.setTop (mkF m 126 #[.val (.int p0_0), .val (.int p0_1), .val (.int p0_2), .val (.int p0_3), .val (.int NN), .val (.int OFF), .val (.int RM), .val (.int KK), .val (.int (bI (¬ ((p0_3 &&& (1 : Int32)) = (0 : Int32))))), .val (.ref b14), .val (.ref b18), .val (.int (bI (OFF = NN))), .val (.int (bI ((OFF + KK) = NN))), .unset, .unset] [])) _
        refine XS.iconst X123.here hx rfl (hb hby at_126) ?_
        show Steps p.tables e below (T123.setTop (mkF m 127 #[.val (.int p0_0), .val (.int p0_1), .val (.int p0_2), .val (.int p0_3), .val (.int NN), .val (.int OFF), .val (.int RM), .val (.int KK), .val (.int (bI (¬ ((p0_3 &&& (1 : Int32)) = (0 : Int32))))), .val (.ref b14), .val (.ref b18), .val (.int (bI (OFF = NN))), .val (.int (bI ((OFF + KK) = NN))), .unset, .unset] [(.int (1 : Int32))])) _
        refine XS.goto X123.here hx rfl (pc0 := 127) (pc' := 131) rfl (hb hby at_127) (by decide) (by decide) ?_
        have q129 : (bI (OFF = NN)) = (1 : Int32) := (bI_t hc126)
        exact castTop (g := (mkF m 131 #[.val (.int p0_0), .val (.int p0_1), .val (.int p0_2), .val (.int p0_3), .val (.int NN), .val (.int OFF), .val (.int RM), .val (.int KK), .val (.int (bI (¬ ((p0_3 &&& (1 : Int32)) = (0 : Int32))))), .val (.ref b14), .val (.ref b18), .val (.int (bI (OFF = NN))), .val (.int (bI ((OFF + KK) = NN))), .unset, .unset] [(.int (1 : Int32))])) (g' := (mkF m 131 #[.val (.int p0_0), .val (.int p0_1), .val (.int p0_2), .val (.int p0_3), .val (.int NN), .val (.int OFF), .val (.int RM), .val (.int KK), .val (.int (bI (¬ ((p0_3 &&& (1 : Int32)) = (0 : Int32))))), .val (.ref b14), .val (.ref b18), .val (.int (bI (OFF = NN))), .val (.int (bI ((OFF + KK) = NN))), .unset, .unset] [(.int (bI (OFF = NN)))])) (by simp only [q129]) k
      · show Steps p.tables e below (T123.setTop (mkF m 123 #[.val (.int p0_0), .val (.int p0_1), .val (.int p0_2), .val (.int p0_3), .val (.int NN), .val (.int OFF), .val (.int RM), .val (.int KK), .val (.int (bI (¬ ((p0_3 &&& (1 : Int32)) = (0 : Int32))))), .val (.ref b14), .val (.ref b18), .val (.int (bI (OFF = NN))), .val (.int (bI ((OFF + KK) = NN))), .unset, .unset] [(.int NN), (.int OFF)])) _
        refine XS.icmpYes X123.here hx rfl (pc0 := 123) (pc' := 130) rfl (hb hby at_123) rfl (feq hc126).2 (by decide) (by decide) ?_
        show Steps p.tables e below (T123.setTop (mkF m 130 #[.val (.int p0_0), .val (.int p0_1), .val (.int p0_2), .val (.int p0_3), .val (.int NN), .val (.int OFF), .val (.int RM), .val (.int KK), .val (.int (bI (¬ ((p0_3 &&& (1 : Int32)) = (0 : Int32))))), .val (.ref b14), .val (.ref b18), .val (.int (bI (OFF = NN))), .val (.int (bI ((OFF + KK) = NN))), .unset, .unset] [])) _
        refine XS.iconst X123.here hx rfl (hb hby at_130) ?_
        have q130 : (bI (OFF = NN)) = (0 : Int32) := (bI_f hc126)
        exact castTop (g := (mkF m 131 #[.val (.int p0_0), .val (.int p0_1), .val (.int p0_2), .val (.int p0_3), .val (.int NN), .val (.int OFF), .val (.int RM), .val (.int KK), .val (.int (bI (¬ ((p0_3 &&& (1 : Int32)) = (0 : Int32))))), .val (.ref b14), .val (.ref b18), .val (.int (bI (OFF = NN))), .val (.int (bI ((OFF + KK) = NN))), .unset, .unset] [(.int (0 : Int32))])) (g' := (mkF m 131 #[.val (.int p0_0), .val (.int p0_1), .val (.int p0_2), .val (.int p0_3), .val (.int NN), .val (.int OFF), .val (.int RM), .val (.int KK), .val (.int (bI (¬ ((p0_3 &&& (1 : Int32)) = (0 : Int32))))), .val (.ref b14), .val (.ref b18), .val (.int (bI (OFF = NN))), .val (.int (bI ((OFF + KK) = NN))), .unset, .unset] [(.int (bI (OFF = NN)))])) (by simp only [q130]) k)
    have pre132 : ∀ t, Steps p.tables e below (T123.setTop (mkF m 140 #[.val (.int p0_0), .val (.int p0_1), .val (.int p0_2), .val (.int p0_3), .val (.int NN), .val (.int OFF), .val (.int RM), .val (.int KK), .val (.int (bI (¬ ((p0_3 &&& (1 : Int32)) = (0 : Int32))))), .val (.ref b14), .val (.ref b18), .val (.int (bI (OFF = NN))), .val (.int (bI ((OFF + KK) = NN))), .val (.int (bI (OFF = NN))), .unset] [(.int NN), (.int (OFF + KK))])) t → Steps p.tables e below (s₁.setTop (entryFrame m #[(.int p0_0), (.int p0_1), (.int p0_2), (.int p0_3)] maxLocals)) t := fun t k => pre128 t (by
      show Steps p.tables e below (T123.setTop (mkF m 131 #[.val (.int p0_0), .val (.int p0_1), .val (.int p0_2), .val (.int p0_3), .val (.int NN), .val (.int OFF), .val (.int RM), .val (.int KK), .val (.int (bI (¬ ((p0_3 &&& (1 : Int32)) = (0 : Int32))))), .val (.ref b14), .val (.ref b18), .val (.int (bI (OFF = NN))), .val (.int (bI ((OFF + KK) = NN))), .unset, .unset] [(.int (bI (OFF = NN)))])) _
      refine XS.istore X123.here hx rfl (hb hby at_131) rfl (l' := #[.val (.int p0_0), .val (.int p0_1), .val (.int p0_2), .val (.int p0_3), .val (.int NN), .val (.int OFF), .val (.int RM), .val (.int KK), .val (.int (bI (¬ ((p0_3 &&& (1 : Int32)) = (0 : Int32))))), .val (.ref b14), .val (.ref b18), .val (.int (bI (OFF = NN))), .val (.int (bI ((OFF + KK) = NN))), .val (.int (bI (OFF = NN))), .unset]) rfl ?_
      show Steps p.tables e below (T123.setTop (mkF m 133 #[.val (.int p0_0), .val (.int p0_1), .val (.int p0_2), .val (.int p0_3), .val (.int NN), .val (.int OFF), .val (.int RM), .val (.int KK), .val (.int (bI (¬ ((p0_3 &&& (1 : Int32)) = (0 : Int32))))), .val (.ref b14), .val (.ref b18), .val (.int (bI (OFF = NN))), .val (.int (bI ((OFF + KK) = NN))), .val (.int (bI (OFF = NN))), .unset] [])) _
      refine XS.iload X123.here hx rfl (hb hby at_133) rfl ?_
      show Steps p.tables e below (T123.setTop (mkF m 135 #[.val (.int p0_0), .val (.int p0_1), .val (.int p0_2), .val (.int p0_3), .val (.int NN), .val (.int OFF), .val (.int RM), .val (.int KK), .val (.int (bI (¬ ((p0_3 &&& (1 : Int32)) = (0 : Int32))))), .val (.ref b14), .val (.ref b18), .val (.int (bI (OFF = NN))), .val (.int (bI ((OFF + KK) = NN))), .val (.int (bI (OFF = NN))), .unset] [(.int OFF)])) _
      refine XS.iload X123.here hx rfl (hb hby at_135) rfl ?_
      show Steps p.tables e below (T123.setTop (mkF m 137 #[.val (.int p0_0), .val (.int p0_1), .val (.int p0_2), .val (.int p0_3), .val (.int NN), .val (.int OFF), .val (.int RM), .val (.int KK), .val (.int (bI (¬ ((p0_3 &&& (1 : Int32)) = (0 : Int32))))), .val (.ref b14), .val (.ref b18), .val (.int (bI (OFF = NN))), .val (.int (bI ((OFF + KK) = NN))), .val (.int (bI (OFF = NN))), .unset] [(.int KK), (.int OFF)])) _
      refine XS.iadd X123.here hx rfl (hb hby at_137) rfl ?_
      show Steps p.tables e below (T123.setTop (mkF m 138 #[.val (.int p0_0), .val (.int p0_1), .val (.int p0_2), .val (.int p0_3), .val (.int NN), .val (.int OFF), .val (.int RM), .val (.int KK), .val (.int (bI (¬ ((p0_3 &&& (1 : Int32)) = (0 : Int32))))), .val (.ref b14), .val (.ref b18), .val (.int (bI (OFF = NN))), .val (.int (bI ((OFF + KK) = NN))), .val (.int (bI (OFF = NN))), .unset] [(.int (OFF + KK))])) _
      refine XS.iload X123.here hx rfl (hb hby at_138) rfl ?_
      exact k)
    have pre133 : ∀ t, Steps p.tables e below (T123.setTop (mkF m 148 #[.val (.int p0_0), .val (.int p0_1), .val (.int p0_2), .val (.int p0_3), .val (.int NN), .val (.int OFF), .val (.int RM), .val (.int KK), .val (.int (bI (¬ ((p0_3 &&& (1 : Int32)) = (0 : Int32))))), .val (.ref b14), .val (.ref b18), .val (.int (bI (OFF = NN))), .val (.int (bI ((OFF + KK) = NN))), .val (.int (bI (OFF = NN))), .unset] [(.int (bI ((OFF + KK) = NN)))])) t → Steps p.tables e below (s₁.setTop (entryFrame m #[(.int p0_0), (.int p0_1), (.int p0_2), (.int p0_3)] maxLocals)) t := fun t k => pre132 t (by
      by_cases hc131 : (OFF + KK) = NN
      · show Steps p.tables e below (T123.setTop (mkF m 140 #[.val (.int p0_0), .val (.int p0_1), .val (.int p0_2), .val (.int p0_3), .val (.int NN), .val (.int OFF), .val (.int RM), .val (.int KK), .val (.int (bI (¬ ((p0_3 &&& (1 : Int32)) = (0 : Int32))))), .val (.ref b14), .val (.ref b18), .val (.int (bI (OFF = NN))), .val (.int (bI ((OFF + KK) = NN))), .val (.int (bI (OFF = NN))), .unset] [(.int NN), (.int (OFF + KK))])) _
        refine XS.icmpNo X123.here hx rfl (hb hby at_140) rfl (teq hc131).2 ?_
        show Steps p.tables e below (T123.setTop (mkF m 143 #[.val (.int p0_0), .val (.int p0_1), .val (.int p0_2), .val (.int p0_3), .val (.int NN), .val (.int OFF), .val (.int RM), .val (.int KK), .val (.int (bI (¬ ((p0_3 &&& (1 : Int32)) = (0 : Int32))))), .val (.ref b14), .val (.ref b18), .val (.int (bI (OFF = NN))), .val (.int (bI ((OFF + KK) = NN))), .val (.int (bI (OFF = NN))), .unset] [])) _
        refine XS.iconst X123.here hx rfl (hb hby at_143) ?_
        show Steps p.tables e below (T123.setTop (mkF m 144 #[.val (.int p0_0), .val (.int p0_1), .val (.int p0_2), .val (.int p0_3), .val (.int NN), .val (.int OFF), .val (.int RM), .val (.int KK), .val (.int (bI (¬ ((p0_3 &&& (1 : Int32)) = (0 : Int32))))), .val (.ref b14), .val (.ref b18), .val (.int (bI (OFF = NN))), .val (.int (bI ((OFF + KK) = NN))), .val (.int (bI (OFF = NN))), .unset] [(.int (1 : Int32))])) _
        refine XS.goto X123.here hx rfl (pc0 := 144) (pc' := 148) rfl (hb hby at_144) (by decide) (by decide) ?_
        have q134 : (bI ((OFF + KK) = NN)) = (1 : Int32) := (bI_t hc131)
        exact castTop (g := (mkF m 148 #[.val (.int p0_0), .val (.int p0_1), .val (.int p0_2), .val (.int p0_3), .val (.int NN), .val (.int OFF), .val (.int RM), .val (.int KK), .val (.int (bI (¬ ((p0_3 &&& (1 : Int32)) = (0 : Int32))))), .val (.ref b14), .val (.ref b18), .val (.int (bI (OFF = NN))), .val (.int (bI ((OFF + KK) = NN))), .val (.int (bI (OFF = NN))), .unset] [(.int (1 : Int32))])) (g' := (mkF m 148 #[.val (.int p0_0), .val (.int p0_1), .val (.int p0_2), .val (.int p0_3), .val (.int NN), .val (.int OFF), .val (.int RM), .val (.int KK), .val (.int (bI (¬ ((p0_3 &&& (1 : Int32)) = (0 : Int32))))), .val (.ref b14), .val (.ref b18), .val (.int (bI (OFF = NN))), .val (.int (bI ((OFF + KK) = NN))), .val (.int (bI (OFF = NN))), .unset] [(.int (bI ((OFF + KK) = NN)))])) (by simp only [q134]) k
      · show Steps p.tables e below (T123.setTop (mkF m 140 #[.val (.int p0_0), .val (.int p0_1), .val (.int p0_2), .val (.int p0_3), .val (.int NN), .val (.int OFF), .val (.int RM), .val (.int KK), .val (.int (bI (¬ ((p0_3 &&& (1 : Int32)) = (0 : Int32))))), .val (.ref b14), .val (.ref b18), .val (.int (bI (OFF = NN))), .val (.int (bI ((OFF + KK) = NN))), .val (.int (bI (OFF = NN))), .unset] [(.int NN), (.int (OFF + KK))])) _
        refine XS.icmpYes X123.here hx rfl (pc0 := 140) (pc' := 147) rfl (hb hby at_140) rfl (feq hc131).2 (by decide) (by decide) ?_
        show Steps p.tables e below (T123.setTop (mkF m 147 #[.val (.int p0_0), .val (.int p0_1), .val (.int p0_2), .val (.int p0_3), .val (.int NN), .val (.int OFF), .val (.int RM), .val (.int KK), .val (.int (bI (¬ ((p0_3 &&& (1 : Int32)) = (0 : Int32))))), .val (.ref b14), .val (.ref b18), .val (.int (bI (OFF = NN))), .val (.int (bI ((OFF + KK) = NN))), .val (.int (bI (OFF = NN))), .unset] [])) _
        refine XS.iconst X123.here hx rfl (hb hby at_147) ?_
        have q135 : (bI ((OFF + KK) = NN)) = (0 : Int32) := (bI_f hc131)
        exact castTop (g := (mkF m 148 #[.val (.int p0_0), .val (.int p0_1), .val (.int p0_2), .val (.int p0_3), .val (.int NN), .val (.int OFF), .val (.int RM), .val (.int KK), .val (.int (bI (¬ ((p0_3 &&& (1 : Int32)) = (0 : Int32))))), .val (.ref b14), .val (.ref b18), .val (.int (bI (OFF = NN))), .val (.int (bI ((OFF + KK) = NN))), .val (.int (bI (OFF = NN))), .unset] [(.int (0 : Int32))])) (g' := (mkF m 148 #[.val (.int p0_0), .val (.int p0_1), .val (.int p0_2), .val (.int p0_3), .val (.int NN), .val (.int OFF), .val (.int RM), .val (.int KK), .val (.int (bI (¬ ((p0_3 &&& (1 : Int32)) = (0 : Int32))))), .val (.ref b14), .val (.ref b18), .val (.int (bI (OFF = NN))), .val (.int (bI ((OFF + KK) = NN))), .val (.int (bI (OFF = NN))), .unset] [(.int (bI ((OFF + KK) = NN)))])) (by simp only [q135]) k)
    obtain ⟨fs, hr, hrun, hended, hW, hsame⟩ := X123.leave (v := some (.int (1 : Int32))) (fun h => by rw [Bd.returns] at h; cases h)
    refine ⟨_, _, pre133 _ ?_, hrun, hended, _, _, rfl, ?_, ⟨_, rfl⟩, hW, hsame.mono (by decide) (by decide)⟩
    · show Steps p.tables e below (T123.setTop (mkF m 148 #[.val (.int p0_0), .val (.int p0_1), .val (.int p0_2), .val (.int p0_3), .val (.int NN), .val (.int OFF), .val (.int RM), .val (.int KK), .val (.int (bI (¬ ((p0_3 &&& (1 : Int32)) = (0 : Int32))))), .val (.ref b14), .val (.ref b18), .val (.int (bI (OFF = NN))), .val (.int (bI ((OFF + KK) = NN))), .val (.int (bI (OFF = NN))), .unset] [(.int (bI ((OFF + KK) = NN)))])) _
      refine XS.istore X123.here hx rfl (hb hby at_148) rfl (l' := #[.val (.int p0_0), .val (.int p0_1), .val (.int p0_2), .val (.int p0_3), .val (.int NN), .val (.int OFF), .val (.int RM), .val (.int KK), .val (.int (bI (¬ ((p0_3 &&& (1 : Int32)) = (0 : Int32))))), .val (.ref b14), .val (.ref b18), .val (.int (bI (OFF = NN))), .val (.int (bI ((OFF + KK) = NN))), .val (.int (bI (OFF = NN))), .val (.int (bI ((OFF + KK) = NN)))]) rfl ?_
      show Steps p.tables e below (T123.setTop (mkF m 150 #[.val (.int p0_0), .val (.int p0_1), .val (.int p0_2), .val (.int p0_3), .val (.int NN), .val (.int OFF), .val (.int RM), .val (.int KK), .val (.int (bI (¬ ((p0_3 &&& (1 : Int32)) = (0 : Int32))))), .val (.ref b14), .val (.ref b18), .val (.int (bI (OFF = NN))), .val (.int (bI ((OFF + KK) = NN))), .val (.int (bI (OFF = NN))), .val (.int (bI ((OFF + KK) = NN)))] [])) _
      refine XS.iload X123.here hx rfl (hb hby at_150) rfl ?_
      show Steps p.tables e below (T123.setTop (mkF m 152 #[.val (.int p0_0), .val (.int p0_1), .val (.int p0_2), .val (.int p0_3), .val (.int NN), .val (.int OFF), .val (.int RM), .val (.int KK), .val (.int (bI (¬ ((p0_3 &&& (1 : Int32)) = (0 : Int32))))), .val (.ref b14), .val (.ref b18), .val (.int (bI (OFF = NN))), .val (.int (bI ((OFF + KK) = NN))), .val (.int (bI (OFF = NN))), .val (.int (bI ((OFF + KK) = NN)))] [(.int (bI (OFF = NN)))])) _
      refine XS.iload X123.here hx rfl (hb hby at_152) rfl ?_
      show Steps p.tables e below (T123.setTop (mkF m 154 #[.val (.int p0_0), .val (.int p0_1), .val (.int p0_2), .val (.int p0_3), .val (.int NN), .val (.int OFF), .val (.int RM), .val (.int KK), .val (.int (bI (¬ ((p0_3 &&& (1 : Int32)) = (0 : Int32))))), .val (.ref b14), .val (.ref b18), .val (.int (bI (OFF = NN))), .val (.int (bI ((OFF + KK) = NN))), .val (.int (bI (OFF = NN))), .val (.int (bI ((OFF + KK) = NN)))] [(.int (bI (OFF = NN))), (.int (bI (OFF = NN)))])) _
      refine XS.icmpNo X123.here hx rfl (hb hby at_154) rfl (teq (rfl : (bI (OFF = NN)) = (bI (OFF = NN)))).2 ?_
      show Steps p.tables e below (T123.setTop (mkF m 157 #[.val (.int p0_0), .val (.int p0_1), .val (.int p0_2), .val (.int p0_3), .val (.int NN), .val (.int OFF), .val (.int RM), .val (.int KK), .val (.int (bI (¬ ((p0_3 &&& (1 : Int32)) = (0 : Int32))))), .val (.ref b14), .val (.ref b18), .val (.int (bI (OFF = NN))), .val (.int (bI ((OFF + KK) = NN))), .val (.int (bI (OFF = NN))), .val (.int (bI ((OFF + KK) = NN)))] [])) _
      refine XS.iload X123.here hx rfl (hb hby at_157) rfl ?_
      show Steps p.tables e below (T123.setTop (mkF m 159 #[.val (.int p0_0), .val (.int p0_1), .val (.int p0_2), .val (.int p0_3), .val (.int NN), .val (.int OFF), .val (.int RM), .val (.int KK), .val (.int (bI (¬ ((p0_3 &&& (1 : Int32)) = (0 : Int32))))), .val (.ref b14), .val (.ref b18), .val (.int (bI (OFF = NN))), .val (.int (bI ((OFF + KK) = NN))), .val (.int (bI (OFF = NN))), .val (.int (bI ((OFF + KK) = NN)))] [(.int (bI ((OFF + KK) = NN)))])) _
      refine XS.iload X123.here hx rfl (hb hby at_159) rfl ?_
      show Steps p.tables e below (T123.setTop (mkF m 161 #[.val (.int p0_0), .val (.int p0_1), .val (.int p0_2), .val (.int p0_3), .val (.int NN), .val (.int OFF), .val (.int RM), .val (.int KK), .val (.int (bI (¬ ((p0_3 &&& (1 : Int32)) = (0 : Int32))))), .val (.ref b14), .val (.ref b18), .val (.int (bI (OFF = NN))), .val (.int (bI ((OFF + KK) = NN))), .val (.int (bI (OFF = NN))), .val (.int (bI ((OFF + KK) = NN)))] [(.int (bI ((OFF + KK) = NN))), (.int (bI ((OFF + KK) = NN)))])) _
      refine XS.icmpNo X123.here hx rfl (hb hby at_161) rfl (teq (rfl : (bI ((OFF + KK) = NN)) = (bI ((OFF + KK) = NN)))).2 ?_
      show Steps p.tables e below (T123.setTop (mkF m 164 #[.val (.int p0_0), .val (.int p0_1), .val (.int p0_2), .val (.int p0_3), .val (.int NN), .val (.int OFF), .val (.int RM), .val (.int KK), .val (.int (bI (¬ ((p0_3 &&& (1 : Int32)) = (0 : Int32))))), .val (.ref b14), .val (.ref b18), .val (.int (bI (OFF = NN))), .val (.int (bI ((OFF + KK) = NN))), .val (.int (bI (OFF = NN))), .val (.int (bI ((OFF + KK) = NN)))] [])) _
      refine XS.iconst X123.here hx rfl (hb hby at_164) ?_
      show Steps p.tables e below (T123.setTop (mkF m 165 #[.val (.int p0_0), .val (.int p0_1), .val (.int p0_2), .val (.int p0_3), .val (.int NN), .val (.int OFF), .val (.int RM), .val (.int KK), .val (.int (bI (¬ ((p0_3 &&& (1 : Int32)) = (0 : Int32))))), .val (.ref b14), .val (.ref b18), .val (.int (bI (OFF = NN))), .val (.int (bI ((OFF + KK) = NN))), .val (.int (bI (OFF = NN))), .val (.int (bI ((OFF + KK) = NN)))] [(.int (1 : Int32))])) _
      refine XS.goto X123.here hx rfl (pc0 := 165) (pc' := 169) rfl (hb hby at_165) (by decide) (by decide) ?_
      show Steps p.tables e below (T123.setTop (mkF m 169 #[.val (.int p0_0), .val (.int p0_1), .val (.int p0_2), .val (.int p0_3), .val (.int NN), .val (.int OFF), .val (.int RM), .val (.int KK), .val (.int (bI (¬ ((p0_3 &&& (1 : Int32)) = (0 : Int32))))), .val (.ref b14), .val (.ref b18), .val (.int (bI (OFF = NN))), .val (.int (bI ((OFF + KK) = NN))), .val (.int (bI (OFF = NN))), .val (.int (bI ((OFF + KK) = NN)))] [(.int (1 : Int32))])) _
      exact retN X123 hx (t := .boolean) Bd.returns (by simp) (hb hby at_169) hr
    · show Q0 Z p0_0 p0_1 p0_2 p0_3 h0 n0 _ T123.heap _
      rw [e123]
      exact ⟨rfl, N124⟩
set_option maxRecDepth 65536 in
set_option maxHeartbeats 40000000 in
theorem comes_1 {Post : Tables → Env → Array Value → State → Outcome → State → Prop} (hpost : ∀ tb e args s v u, (limb_1_1.after args s (.returned v) u = true ∧ limb_1_2.after args s (.returned v) u = true ∧ True) → FrameEnd s (.returned v) u (Jvm.fieldLocs frame_1_writes args s ++ Jvm.arrayLocs frame_1_arrays args s ++ Jvm.staticLocs frame_1_statics s) 16 128 → Post tb e args s (.returned v) u) :
    ArmFor flags0 classFile x code maxLocals ret World_1 tables_1 room_1 Calls_1 rest_1 Pre_1 Post := by
  intro l hfl _ _ p e ha hc hk s m args below hf hA hF happ hP
  obtain ⟨hcalls, hrest, hpre⟩ := hP
  obtain ⟨-, -, -, hnamed, -, -, -, hat⟩ := (Spec.applies_iff hf).mp happ
  obtain ⟨hg, hn⟩ := and_e (Cond.before_iff.mp (show (Jvm.Cond.and given_1 narrow_1).before args s = true from hpre))
  obtain ⟨g1, g2⟩ := and_e hg
  obtain ⟨g3, g4⟩ := and_e g2
  obtain ⟨g5, g6⟩ := and_e g4
  obtain ⟨g7, g8⟩ := and_e g6
  obtain ⟨w0, w1, w2, w3, rfl⟩ : ∃ w0 w1 w2 w3 : Value, args = #[w0, w1, w2, w3] := by
    have hs : args.size = 4 := by simpa [Cond.value, given_1] using g1
    obtain ⟨L⟩ := args
    match L, hs with
    | [w0, w1, w2, w3], _ => exact ⟨w0, w1, w2, w3, rfl⟩
  have hw := fun d (hd : d ∈ tables_1) => atoms_spec (ws := Jvm.Cond.code x code maxLocals ret :: tables_1) hat d (List.mem_cons_of_mem _ hd)
  have hfit : Fit s := fun {y c} hc i hi => by
    obtain ⟨ha, rfl⟩ := Array.getElem?_eq_some_iff.mp hc
    have q := List.all_eq_true.mp ((Array.all_eq_true_iff_forall_mem.mp hF) _ (Array.getElem_mem ha)) i (List.mem_range.mpr hi)
    simpa [Array.getElem?_eq_getElem hi] using q
  obtain ⟨i0, ei0⟩ := is_v g3
  obtain rfl : w0 = (.int i0) := Option.some.inj ei0
  obtain ⟨i1, ei1⟩ := is_v g5
  obtain rfl : w1 = (.int i1) := Option.some.inj ei1
  obtain ⟨i2, ei2⟩ := is_v g7
  obtain rfl : w2 = (.int i2) := Option.some.inj ei2
  obtain ⟨i3, ei3⟩ := is_v g8
  obtain rfl : w3 = (.int i3) := Option.some.inj ei3
  obtain ⟨n, o, h1, h2, h3, _, L, rfl, ⟨rfl, N⟩, hq⟩ := rm0 l s _ hw tables_1 i0 i1 i2 i3 s.heap s.heap.size (Nat.le_refl _)  p e ha hc hk s m _ below hf ((Spec.applies_iff_loose hf).mp happ).1 ⟨rfl, State.Warmed39.refl s, rfl⟩ trivial
  refine ⟨n, _, h1, h2, h3, hpost _ _ _ _ _ _ ⟨Cond.after_iff.mpr rfl, Cond.after_iff.mpr (eq_i res_at (Term.int_eval (1)) rfl), trivial⟩ ⟨hq.1, hq.2.1, (hq.2.2.sift fun y hy => Or.inr (N y hy)).mono (by decide) (by decide)⟩⟩
theorem main_1_1 : Claimed_1_1 := comes_1 fun _ _ _ _ _ _ h hF => ⟨h.1, hF⟩
theorem main_1_2 : Claimed_1_2 := comes_1 fun _ _ _ _ _ _ h hF => ⟨h.2.1, hF⟩
end Jvm.Pilot.@@N@@
namespace Jvm.Pilot.@@N@@
open Jvm Jvm.ClassFile Sem Op Lib Jvm.Free Jvm.Stand Jvm.Pilot.@@N@@.Jvm.D
/-! MADE BY PROGRAM (witnessworld.py) out of the Statement's table words and the real class files: 12 classes; the members and pool entries that the words name. The judged class is class 1, her method 1. -/
namespace start1
open Jvm.ClassFile
def u (s : String) : CpInfo := .utf8 (stringToUtf16 s)
/-- a pool by its gaps: so many unusable entries, then the entry; so many at the end -/
def gap : Nat → List CpInfo → List CpInfo
  | 0, r => r
  | n + 1, r => .unusable :: gap n r
def poolList (es : List (Nat × CpInfo)) (last : Nat) : List CpInfo := es.foldr (fun e r => gap e.1 (e.2 :: r)) (gap last [])
def pool (es : List (Nat × CpInfo)) (last : Nat) : Array CpInfo := ⟨poolList es last⟩
def fileOf (pool : Array CpInfo) (this : Nat) (attrs : Array Attribute := #[]) (ms : Array MethodInfo := #[]) (fl : Nat := 33) (sup : Nat := 0) (ifs : Array Nat := #[]) (fds : Array FieldInfo := #[]) : ClassFile where
  minorVersion := 0
  majorVersion := 65
  constantPool := pool
  accessFlags := fl
  thisClass := this
  superClass := sup
  interfaces := ifs
  fields := fds
  methods := ms
  attributes := attrs
def plain (name : String) (sup : Option ClassId) : Class where
  name := name
  kind := .ordinary
  loader := none
  accessFlags := 33
  super := sup
  interfaces := #[]
  cf := none
  fields := #[]
  methods := #[]
  instanceTypes := #[]
  staticTypes := #[]
  resolved := #[]
  callSites := []
  init := .initialized
  statics := none
  mirror := none

def pool0 : Array CpInfo := pool [(5, u "<init>"), (0, u "()V"), (1, .class_ 10), (1, u "java/lang/Object"), (85, u "clone"), (0, u "()Ljava/lang/Object;")] 26

def k0c0 : Code := { maxStack := 0, maxLocals := 1, code := object_method_1_code, exceptionTable := #[], attributes := #[] }
def k0m0 : Method := { name := "<init>", desc := "()V", sig := { parameters := [], returnType := none }, accessFlags := 1, code := some k0c0 }
def k0m1 : Method := { name := "clone", desc := "()Ljava/lang/Object;", sig := { parameters := [], returnType := some (.object "java/lang/Object") }, accessFlags := 260, code := none }
/-- java/lang/Object -/
def k0 : Class := { plain "java/lang/Object" none with
  accessFlags := 33
  interfaces := #[]
  cf := some (fileOf pool0 8 #[] #[{ accessFlags := 1, nameIndex := 5, descriptorIndex := 6, attributes := #[] }, { accessFlags := 260, nameIndex := 96, descriptorIndex := 97, attributes := #[] }] 33 0 #[] #[])
  fields := #[]
  methods := #[k0m0, k0m1]
  instanceTypes := #[]
  staticTypes := #[]
  resolved := Array.replicate 124 none
  statics := none }

def pool1 : Array CpInfo := pool [(2, .class_ 4), (1, u "java/lang/Object"), (0, u "<init>"), (0, u "()V"), (0, .integer 2147483647), (0, .class_ 9), (0, u "com/example/libmosaic/libmosaic/encoding/ByteReader"), (0, .methodref 8 11), (0, .nameAndType 5 12), (0, u "([BI)V"), (0, .methodref 8 14), (0, .nameAndType 15 16), (0, u "atEnd"), (0, u "()Z"), (0, .methodref 8 18), (0, .nameAndType 19 20), (0, u "read"), (0, u "()I"), (0, .methodref 8 22), (0, .nameAndType 19 23), (0, u "(I)[B"), (0, .class_ 25), (0, u "com/example/libmosaic/libmosaic/encoding/ByteReaderAtEndPinLaw"), (2, u "law"), (0, u "(IIII)Z")] 5

def k1m0 : Method := { name := "<init>", desc := "()V", sig := { parameters := [], returnType := none }, accessFlags := 1, code := none }
def k1c1 : Code := { maxStack := 4, maxLocals := 15, code := code, exceptionTable := #[], attributes := #[] }
def k1m1 : Method := { name := "law", desc := "(IIII)Z", sig := { parameters := [.int, .int, .int, .int], returnType := some .boolean }, accessFlags := 9, code := some k1c1 }
/-- com/example/libmosaic/libmosaic/encoding/ByteReaderAtEndPinLaw -/
def k1 : Class := { plain "com/example/libmosaic/libmosaic/encoding/ByteReaderAtEndPinLaw" (some 0) with
  accessFlags := 49
  interfaces := #[]
  cf := some (fileOf pool1 24 #[] #[{ accessFlags := 1, nameIndex := 5, descriptorIndex := 6, attributes := #[] }, { accessFlags := 9, nameIndex := 28, descriptorIndex := 29, attributes := #[] }] 49 2 #[] #[])
  fields := #[]
  methods := #[k1m0, k1m1]
  instanceTypes := #[]
  staticTypes := #[]
  resolved := Array.replicate 35 none
  statics := none }

def pool2 : Array CpInfo := pool [(1, .methodref 2 3), (0, .class_ 4), (0, .nameAndType 5 6), (0, u "java/lang/Object"), (0, u "<init>"), (0, u "()V"), (9, .fieldref 17 18), (0, .class_ 19), (0, .nameAndType 20 21), (0, u "com/example/libmosaic/libmosaic/encoding/ByteReader"), (0, u "bytes"), (0, u "[B"), (0, .fieldref 17 23), (0, .nameAndType 24 25), (0, u "position"), (0, u "I"), (0, .methodref 17 27), (0, .nameAndType 28 29), (0, u "require"), (0, u "(I)V"), (0, .fieldref 17 31), (0, .nameAndType 32 25), (0, u "complement"), (0, .methodref 34 35), (0, .class_ 36), (0, .nameAndType 37 38), (0, u "java/util/Arrays"), (0, u "copyOfRange"), (0, u "([BII)[B"), (15, u "read"), (0, u "()I"), (18, u "([BI)V"), (4, u "(I)[B"), (3, u "atEnd"), (0, u "()Z")] 19

def k2c0 : Code := { maxStack := 4, maxLocals := 3, code := prog_9_method_1_code, exceptionTable := #[], attributes := #[] }
def k2m0 : Method := { name := "<init>", desc := "([BI)V", sig := { parameters := [(.array .byte), .int], returnType := none }, accessFlags := 1, code := some k2c0 }
def k2c1 : Code := { maxStack := 5, maxLocals := 1, code := prog_9_method_2_code, exceptionTable := #[], attributes := #[] }
def k2m1 : Method := { name := "read", desc := "()I", sig := { parameters := [], returnType := some .int }, accessFlags := 1, code := some k2c1 }
def k2c2 : Code := { maxStack := 4, maxLocals := 4, code := prog_9_method_3_code, exceptionTable := #[], attributes := #[] }
def k2m2 : Method := { name := "read", desc := "(I)[B", sig := { parameters := [.int], returnType := some (.array .byte) }, accessFlags := 1, code := some k2c2 }
def k2c3 : Code := { maxStack := 2, maxLocals := 1, code := prog_9_method_9_code, exceptionTable := #[], attributes := #[] }
def k2m3 : Method := { name := "atEnd", desc := "()Z", sig := { parameters := [], returnType := some .boolean }, accessFlags := 1, code := some k2c3 }
def k2c4 : Code := { maxStack := 7, maxLocals := 2, code := prog_9_method_10_code, exceptionTable := #[], attributes := #[] }
def k2m4 : Method := { name := "require", desc := "(I)V", sig := { parameters := [.int], returnType := none }, accessFlags := 2, code := some k2c4 }
/-- com/example/libmosaic/libmosaic/encoding/ByteReader -/
def k2 : Class := { plain "com/example/libmosaic/libmosaic/encoding/ByteReader" (some 0) with
  accessFlags := 49
  interfaces := #[]
  cf := some (fileOf pool2 17 #[] #[{ accessFlags := 1, nameIndex := 5, descriptorIndex := 74, attributes := #[] }, { accessFlags := 1, nameIndex := 54, descriptorIndex := 55, attributes := #[] }, { accessFlags := 1, nameIndex := 54, descriptorIndex := 79, attributes := #[] }, { accessFlags := 1, nameIndex := 83, descriptorIndex := 84, attributes := #[] }, { accessFlags := 2, nameIndex := 28, descriptorIndex := 29, attributes := #[] }] 49 2 #[] #[{ accessFlags := 18, nameIndex := 20, descriptorIndex := 21, attributes := #[] }, { accessFlags := 2, nameIndex := 24, descriptorIndex := 25, attributes := #[] }, { accessFlags := 2, nameIndex := 32, descriptorIndex := 25, attributes := #[] }])
  fields := #[{ name := "bytes", type := (.array .byte), accessFlags := 18, slot := 0, constantValue := 0 }, { name := "position", type := .int, accessFlags := 2, slot := 1, constantValue := 0 }, { name := "complement", type := .int, accessFlags := 2, slot := 2, constantValue := 0 }]
  methods := #[k2m0, k2m1, k2m2, k2m3, k2m4]
  instanceTypes := #[(.array .byte), .int, .int]
  staticTypes := #[]
  resolved := Array.replicate 104 none
  statics := none }

def pool3 : Array CpInfo := pool [(2, .class_ 4), (1, u "java/lang/Object"), (0, u "<init>"), (0, u "()V"), (7, .class_ 16), (1, u "java/util/Arrays"), (57, .class_ 76), (1, u "java/util/Arrays$NaturalOrder"), (32, u "()Ljava/lang/Object;"), (3, .class_ 115), (1, u "java/util/Arrays$LegacyMergeSort"), (1, u "Z"), (10, .nameAndType 129 109), (0, u "clone"), (9, u "copyOfRange"), (10, .methodref 151 152), (0, .class_ 153), (0, .nameAndType 154 155), (0, u "java/lang/System"), (0, u "arraycopy"), (0, u "(Ljava/lang/Object;ILjava/lang/Object;II)V"), (148, .methodref 305 306), (0, .class_ 307), (0, .nameAndType 308 309), (0, u "java/lang/Math"), (0, u "min"), (0, u "(II)I"), (0, .methodref 311 128), (0, .class_ 312), (0, u "[B"), (26, .methodref 14 340), (0, .nameAndType 341 342), (0, u "copyOfRangeByte"), (0, u "([BII)[B"), (0, .methodref 14 344), (0, .nameAndType 345 346), (0, u "checkLength"), (0, u "(II)V"), (28, .class_ 376), (0, u "java/util/Arrays$ArrayList"), (68, u "$assertionsDisabled"), (269, u "MIN_ARRAY_SORT_GRAN"), (0, u "I"), (2, u "INSERTIONSORT_THRESHOLD"), (255, .class_ 976), (0, u "java/util/Arrays$ArrayItr")] 52

def k3m0 : Method := { name := "<init>", desc := "()V", sig := { parameters := [], returnType := none }, accessFlags := 2, code := none }
def k3c1 : Code := { maxStack := 4, maxLocals := 2, code := jdk_65_method_131_code, exceptionTable := #[], attributes := #[] }
def k3m1 : Method := { name := "checkLength", desc := "(II)V", sig := { parameters := [.int, .int], returnType := none }, accessFlags := 10, code := some k3c1 }
def k3c2 : Code := { maxStack := 3, maxLocals := 3, code := jdk_65_method_132_code, exceptionTable := #[], attributes := #[] }
def k3m2 : Method := { name := "copyOfRange", desc := "([BII)[B", sig := { parameters := [(.array .byte), .int, .int], returnType := some (.array .byte) }, accessFlags := 9, code := some k3c2 }
def k3c3 : Code := { maxStack := 6, maxLocals := 5, code := jdk_65_method_133_code, exceptionTable := #[], attributes := #[] }
def k3m3 : Method := { name := "copyOfRangeByte", desc := "([BII)[B", sig := { parameters := [(.array .byte), .int, .int], returnType := some (.array .byte) }, accessFlags := 10, code := some k3c3 }
/-- java/util/Arrays -/
def k3 : Class := { plain "java/util/Arrays" (some 0) with
  accessFlags := 49
  interfaces := #[]
  cf := some (fileOf pool3 14 #[.nestMembers #[975, 375, 113, 74]] #[{ accessFlags := 2, nameIndex := 5, descriptorIndex := 6, attributes := #[] }, { accessFlags := 10, nameIndex := 345, descriptorIndex := 346, attributes := #[] }, { accessFlags := 9, nameIndex := 139, descriptorIndex := 342, attributes := #[] }, { accessFlags := 10, nameIndex := 341, descriptorIndex := 342, attributes := #[] }] 49 2 #[] #[{ accessFlags := 26, nameIndex := 715, descriptorIndex := 716, attributes := #[] }, { accessFlags := 26, nameIndex := 719, descriptorIndex := 716, attributes := #[] }, { accessFlags := 4120, nameIndex := 445, descriptorIndex := 117, attributes := #[] }])
  fields := #[{ name := "MIN_ARRAY_SORT_GRAN", type := .int, accessFlags := 26, slot := 0, constantValue := 0 }, { name := "INSERTIONSORT_THRESHOLD", type := .int, accessFlags := 26, slot := 1, constantValue := 0 }, { name := "$assertionsDisabled", type := .boolean, accessFlags := 4120, slot := 2, constantValue := 0 }]
  methods := #[k3m0, k3m1, k3m2, k3m3]
  instanceTypes := #[]
  staticTypes := #[.int, .int, .boolean]
  resolved := Array.replicate 1029 none
  statics := none }

def pool4 : Array CpInfo := pool [(1, .class_ 2), (0, u "java/lang/Cloneable"), (0, .class_ 4), (0, u "java/lang/Object")] 2

/-- java/lang/Cloneable -/
def k4 : Class := { plain "java/lang/Cloneable" (some 0) with
  accessFlags := 1537
  interfaces := #[]
  cf := some (fileOf pool4 1 #[] #[] 1537 3 #[] #[])
  fields := #[]
  methods := #[]
  instanceTypes := #[]
  staticTypes := #[]
  resolved := Array.replicate 7 none
  statics := none }

def pool5 : Array CpInfo := pool [(1, .class_ 2), (0, u "java/lang/Math"), (1, .class_ 6), (1, u "java/lang/Object"), (0, u "<init>"), (0, u "()V"), (89, .class_ 100), (1, u "java/lang/Math$RandomNumberGeneratorHolder"), (71, u "negativeZeroFloatBits"), (0, u "J"), (2, u "negativeZeroDoubleBits"), (24, u "min"), (43, u "$assertionsDisabled"), (0, u "Z"), (88, u "(II)I"), (2, u "twoToTheDoubleScaleDown"), (0, u "D"), (4, u "twoToTheDoubleScaleUp"), (9, u "E"), (3, u "PI"), (2, u "TAU"), (2, u "DEGREES_TO_RADIANS"), (0, u "RADIANS_TO_DEGREES")] 94

def k5m0 : Method := { name := "<init>", desc := "()V", sig := { parameters := [], returnType := none }, accessFlags := 2, code := none }
def k5c1 : Code := { maxStack := 2, maxLocals := 2, code := jdk_29_method_69_code, exceptionTable := #[], attributes := #[] }
def k5m1 : Method := { name := "min", desc := "(II)I", sig := { parameters := [.int, .int], returnType := some .int }, accessFlags := 9, code := some k5c1 }
/-- java/lang/Math -/
def k5 : Class := { plain "java/lang/Math" (some 0) with
  accessFlags := 49
  interfaces := #[]
  cf := some (fileOf pool5 1 #[.nestMembers #[98]] #[{ accessFlags := 2, nameIndex := 7, descriptorIndex := 8, attributes := #[] }, { accessFlags := 9, nameIndex := 201, descriptorIndex := 335, attributes := #[] }] 49 4 #[] #[{ accessFlags := 25, nameIndex := 354, descriptorIndex := 339, attributes := #[] }, { accessFlags := 25, nameIndex := 358, descriptorIndex := 339, attributes := #[] }, { accessFlags := 25, nameIndex := 361, descriptorIndex := 339, attributes := #[] }, { accessFlags := 26, nameIndex := 364, descriptorIndex := 339, attributes := #[] }, { accessFlags := 26, nameIndex := 365, descriptorIndex := 339, attributes := #[] }, { accessFlags := 26, nameIndex := 172, descriptorIndex := 173, attributes := #[] }, { accessFlags := 26, nameIndex := 176, descriptorIndex := 173, attributes := #[] }, { accessFlags := 8, nameIndex := 344, descriptorIndex := 339, attributes := #[] }, { accessFlags := 8, nameIndex := 338, descriptorIndex := 339, attributes := #[] }, { accessFlags := 4120, nameIndex := 245, descriptorIndex := 246, attributes := #[] }])
  fields := #[{ name := "E", type := .double, accessFlags := 25, slot := 0, constantValue := 0 }, { name := "PI", type := .double, accessFlags := 25, slot := 1, constantValue := 0 }, { name := "TAU", type := .double, accessFlags := 25, slot := 2, constantValue := 0 }, { name := "DEGREES_TO_RADIANS", type := .double, accessFlags := 26, slot := 3, constantValue := 0 }, { name := "RADIANS_TO_DEGREES", type := .double, accessFlags := 26, slot := 4, constantValue := 0 }, { name := "negativeZeroFloatBits", type := .long, accessFlags := 26, slot := 5, constantValue := 0 }, { name := "negativeZeroDoubleBits", type := .long, accessFlags := 26, slot := 6, constantValue := 0 }, { name := "twoToTheDoubleScaleUp", type := .double, accessFlags := 8, slot := 7, constantValue := 0 }, { name := "twoToTheDoubleScaleDown", type := .double, accessFlags := 8, slot := 8, constantValue := 0 }, { name := "$assertionsDisabled", type := .boolean, accessFlags := 4120, slot := 9, constantValue := 0 }]
  methods := #[k5m0, k5m1]
  instanceTypes := #[]
  staticTypes := #[.double, .double, .double, .double, .double, .long, .long, .double, .double, .boolean]
  resolved := Array.replicate 460 none
  statics := none }

def pool6 : Array CpInfo := pool [(2, .class_ 4), (1, u "java/lang/Object"), (0, u "<init>"), (0, u "()V"), (1, .class_ 10), (1, u "java/lang/System"), (0, u "allowSecurityManager"), (0, u "I"), (16, u "cons"), (0, u "Ljava/io/Console;"), (77, .class_ 110), (1, u "java/lang/System$CallersHolder"), (43, u "initialErrStream"), (0, u "Ljava/io/PrintStream;"), (19, u "security"), (0, u "Ljava/lang/SecurityManager;"), (31, .class_ 209), (0, u "java/lang/System$1"), (7, u "props"), (0, u "Ljava/util/Properties;"), (2, u "lineSeparator"), (0, u "Ljava/lang/String;"), (96, .class_ 321), (1, u "java/lang/System$LoggerFinder"), (5, .class_ 328), (0, u "java/lang/System$Logger"), (67, u "err"), (2, u "out"), (91, u "notSupportedJnuEncoding"), (15, u "in"), (17, u "initialIn"), (0, u "Ljava/io/InputStream;"), (35, u "bootLayer"), (0, u "Ljava/lang/ModuleLayer;"), (99, .class_ 664), (0, u "java/lang/System$2"), (9, u "NEVER"), (2, u "MAYBE"), (49, u "arraycopy"), (0, u "(Ljava/lang/Object;ILjava/lang/Object;II)V"), (72, .class_ 802), (0, u "java/lang/System$Logger$Level")] 31

def k6m0 : Method := { name := "<init>", desc := "()V", sig := { parameters := [], returnType := none }, accessFlags := 2, code := none }
def k6m1 : Method := { name := "arraycopy", desc := "(Ljava/lang/Object;ILjava/lang/Object;II)V", sig := { parameters := [(.object "java/lang/Object"), .int, (.object "java/lang/Object"), .int, .int], returnType := none }, accessFlags := 265, code := none }
/-- java/lang/System -/
def k6 : Class := { plain "java/lang/System" (some 0) with
  accessFlags := 49
  interfaces := #[]
  cf := some (fileOf pool6 8 #[.nestMembers #[319, 327, 801, 108, 663, 208]] #[{ accessFlags := 2, nameIndex := 5, descriptorIndex := 6, attributes := #[] }, { accessFlags := 265, nameIndex := 727, descriptorIndex := 728, attributes := #[] }] 49 2 #[] #[{ accessFlags := 25, nameIndex := 507, descriptorIndex := 526, attributes := #[] }, { accessFlags := 25, nameIndex := 399, descriptorIndex := 155, attributes := #[] }, { accessFlags := 25, nameIndex := 396, descriptorIndex := 155, attributes := #[] }, { accessFlags := 10, nameIndex := 525, descriptorIndex := 526, attributes := #[] }, { accessFlags := 26, nameIndex := 674, descriptorIndex := 12, attributes := #[] }, { accessFlags := 26, nameIndex := 677, descriptorIndex := 12, attributes := #[] }, { accessFlags := 10, nameIndex := 11, descriptorIndex := 12, attributes := #[] }, { accessFlags := 74, nameIndex := 175, descriptorIndex := 176, attributes := #[] }, { accessFlags := 10, nameIndex := 491, descriptorIndex := 222, attributes := #[] }, { accessFlags := 74, nameIndex := 29, descriptorIndex := 30, attributes := #[] }, { accessFlags := 74, nameIndex := 154, descriptorIndex := 155, attributes := #[] }, { accessFlags := 10, nameIndex := 217, descriptorIndex := 218, attributes := #[] }, { accessFlags := 10, nameIndex := 221, descriptorIndex := 222, attributes := #[] }, { accessFlags := 8, nameIndex := 562, descriptorIndex := 563, attributes := #[] }])
  fields := #[{ name := "in", type := (.object "java/io/InputStream"), accessFlags := 25, slot := 0, constantValue := 0 }, { name := "out", type := (.object "java/io/PrintStream"), accessFlags := 25, slot := 1, constantValue := 0 }, { name := "err", type := (.object "java/io/PrintStream"), accessFlags := 25, slot := 2, constantValue := 0 }, { name := "initialIn", type := (.object "java/io/InputStream"), accessFlags := 10, slot := 3, constantValue := 0 }, { name := "NEVER", type := .int, accessFlags := 26, slot := 4, constantValue := 0 }, { name := "MAYBE", type := .int, accessFlags := 26, slot := 5, constantValue := 0 }, { name := "allowSecurityManager", type := .int, accessFlags := 10, slot := 6, constantValue := 0 }, { name := "security", type := (.object "java/lang/SecurityManager"), accessFlags := 74, slot := 7, constantValue := 0 }, { name := "notSupportedJnuEncoding", type := (.object "java/lang/String"), accessFlags := 10, slot := 8, constantValue := 0 }, { name := "cons", type := (.object "java/io/Console"), accessFlags := 74, slot := 9, constantValue := 0 }, { name := "initialErrStream", type := (.object "java/io/PrintStream"), accessFlags := 74, slot := 10, constantValue := 0 }, { name := "props", type := (.object "java/util/Properties"), accessFlags := 10, slot := 11, constantValue := 0 }, { name := "lineSeparator", type := (.object "java/lang/String"), accessFlags := 10, slot := 12, constantValue := 0 }, { name := "bootLayer", type := (.object "java/lang/ModuleLayer"), accessFlags := 8, slot := 13, constantValue := 0 }]
  methods := #[k6m0, k6m1]
  instanceTypes := #[]
  staticTypes := #[(.object "java/io/InputStream"), (.object "java/io/PrintStream"), (.object "java/io/PrintStream"), (.object "java/io/InputStream"), .int, .int, .int, (.object "java/lang/SecurityManager"), (.object "java/lang/String"), (.object "java/io/Console"), (.object "java/io/PrintStream"), (.object "java/util/Properties"), (.object "java/lang/String"), (.object "java/lang/ModuleLayer")]
  resolved := Array.replicate 834 none
  statics := none }

def pool7 : Array CpInfo := pool [(1, u "java/io/Serializable"), (0, .class_ 1), (0, u "java/lang/Object"), (0, .class_ 3)] 3

/-- java/io/Serializable -/
def k7 : Class := { plain "java/io/Serializable" (some 0) with
  accessFlags := 1537
  interfaces := #[]
  cf := some (fileOf pool7 2 #[] #[] 1537 4 #[] #[])
  fields := #[]
  methods := #[]
  instanceTypes := #[]
  staticTypes := #[]
  resolved := Array.replicate 8 none
  statics := none }

/-- the primitive byte -/
def k8 : Class := { plain "byte" none with kind := .primitive 'B', accessFlags := 0x411 }
/-- [B -/
def k9 : Class := { plain "[B" (some 0) with kind := .array 8 .byte, interfaces := #[4, 7], accessFlags := 1041 }

/-- the primitive int -/
def k10 : Class := { plain "int" none with kind := .primitive 'I', accessFlags := 0x411 }
/-- [I -/
def k11 : Class := { plain "[I" (some 0) with kind := .array 10 .int, interfaces := #[4, 7], accessFlags := 1041 }

def heap : Heap := #[]
def classes : Array Class := #[k0, k1, k2, k3, k4, k5, k6, k7, k8, k9, k10, k11]
def interned : List (Array UInt16 × Addr) := []
def slotsUsed : Nat := 0
def theMethod : MethodId := ⟨1, 1⟩
def args0 : Array Value := #[.int 5, .int 9, .int 3, .int 1]
def aboutOver (below : List Frame) : State where
  vm := { classes := classes, interned := interned.toArray }
  heap := heap
  slotsUsed := slotsUsed
  threads := #[{ frames := .invoking theMethod args0 :: below }]
def below0 : List Frame := [.native { method := ⟨0, 0⟩, args := #[] }]
def about1 : State := aboutOver below0
def p0 : Program := .bare "" "" ""
def e0 : Env := launch0.env 0 0 0
theorem w_frames : about1.frames = Frame.invoking theMethod args0 :: below0 := rfl
set_option maxRecDepth 65536 in
theorem w_args : argsFit about1.vm theMethod args0 = true := by decide +kernel
set_option maxRecDepth 65536 in
theorem w_heap : heapFits about1 = true := by decide +kernel
set_option maxRecDepth 65536 in
theorem w_runnable : about1.curStatus? = some .runnable := by decide +kernel
set_option maxRecDepth 65536 in
theorem w_alone : about1.alone = true := by decide +kernel
set_option maxRecDepth 65536 in
theorem w_named : about1.methodNamed? x = some theMethod := by decide +kernel
set_option maxRecDepth 65536 in
theorem w_hears : about1.hears theMethod below0 = true := by decide +kernel
set_option maxRecDepth 65536 in
theorem w_ripe : about1.ripe theMethod args0 below0 = true := by decide +kernel
theorem w_running : about1.status = .running := rfl
set_option maxRecDepth 65536 in
theorem w_room : about1.hasRoom e0.platform room_1 = true :=
  launch0.hasRoom_least _ room_1 (by decide +kernel) (by decide +kernel) (by decide +kernel) (by decide +kernel) (by decide +kernel) (by decide +kernel)
theorem allAtoms_all (ts : List Jvm.Cond) (a : Array Jvm.Value) (st : Jvm.State) : (allAtoms ts).before a st = ts.all (fun c => c.before a st) := by
  induction ts with
  | nil => rfl
  | cons c t ih =>
    show (Jvm.Cond.and c (allAtoms t)).before a st = _
    rw [Jvm.Cond.before_and, ih, List.all_cons]
def words1 : List Jvm.Cond := Jvm.Cond.code x code maxLocals ret :: tables_1
/-- a 'code' word, met by the world's own term for the bytes: nothing is compared byte by byte -/
theorem code_word {y : MethodName} {bytes : ByteArray} {mx : Nat} {rt : Option FieldType} {a : Array Value} {s : State} {m : MethodId} {meth : Method} {c : Code} (h1 : s.methodNamed? y = some m) (h2 : s.vm.method? m = some meth) (h3 : meth.code = some c) (h4 : c.code = bytes)
    (h5 : (c.maxLocals == mx && c.exceptionTable.isEmpty && decide (c.maxStack ≤ mostOperands) && decide (meth.sig.returnType = rt) && !meth.locks && decide (parseMethodDescriptor y.desc = some meth.sig)) = true) : (Jvm.Cond.code y bytes mx rt).before a s = true := by
  simp only [Bool.and_eq_true, beq_iff_eq, Bool.not_eq_true', decide_eq_true_eq] at h5
  obtain ⟨⟨⟨⟨⟨g1, g2⟩, g3⟩, g4⟩, g5⟩, g6⟩ := h5
  simp [Cond.before, Cond.holds, Cond.value, h1, h2, h3, h4, g1, g2, g3, g4, g5, g6]
def isCode : Jvm.Cond → Bool
  | .code _ _ _ _ => true
  | _ => false
theorem all_split {L : List Jvm.Cond} {P : Jvm.Cond → Bool} (h1 : L.all (fun c => isCode c || P c) = true) (h2 : ∀ c ∈ L.filter isCode, P c = true) : L.all P = true := by
  refine List.all_eq_true.mpr fun c hc => ?_
  have h := List.all_eq_true.mp h1 c hc
  rcases Bool.eq_false_or_eq_true (isCode c) with hi | hi
  · exact h2 c (List.mem_filter.mpr ⟨hc, hi⟩)
  · simpa [hi] using h
set_option maxRecDepth 65536 in
theorem w_c0 : (Jvm.Cond.code x code maxLocals ret).before args0 about1 = true := code_word (m := ⟨1, 1⟩) (meth := k1m1) (c := k1c1) (by decide +kernel) rfl rfl rfl (by decide +kernel)
set_option maxRecDepth 65536 in
theorem w_c1 : (Jvm.Cond.code ({ cls := "com/example/libmosaic/libmosaic/encoding/ByteReader", name := "<init>", desc := "([BI)V" } : Jvm.MethodName) prog_9_method_1_code (3 : Nat) (Option.none : Option Jvm.ClassFile.FieldType)).before args0 about1 = true := code_word (m := ⟨2, 0⟩) (meth := k2m0) (c := k2c0) (by decide +kernel) rfl rfl rfl (by decide +kernel)
set_option maxRecDepth 65536 in
theorem w_c2 : (Jvm.Cond.code ({ cls := "java/lang/Object", name := "<init>", desc := "()V" } : Jvm.MethodName) object_method_1_code (1 : Nat) (Option.none : Option Jvm.ClassFile.FieldType)).before args0 about1 = true := code_word (m := ⟨0, 0⟩) (meth := k0m0) (c := k0c0) (by decide +kernel) rfl rfl rfl (by decide +kernel)
set_option maxRecDepth 65536 in
theorem w_c3 : (Jvm.Cond.code ({ cls := "com/example/libmosaic/libmosaic/encoding/ByteReader", name := "atEnd", desc := "()Z" } : Jvm.MethodName) prog_9_method_9_code (1 : Nat) (Option.some Jvm.ClassFile.FieldType.boolean)).before args0 about1 = true := code_word (m := ⟨2, 3⟩) (meth := k2m3) (c := k2c3) (by decide +kernel) rfl rfl rfl (by decide +kernel)
set_option maxRecDepth 65536 in
theorem w_c4 : (Jvm.Cond.code ({ cls := "com/example/libmosaic/libmosaic/encoding/ByteReader", name := "read", desc := "(I)[B" } : Jvm.MethodName) prog_9_method_3_code (4 : Nat) (Option.some (Jvm.ClassFile.FieldType.array Jvm.ClassFile.FieldType.byte))).before args0 about1 = true := code_word (m := ⟨2, 2⟩) (meth := k2m2) (c := k2c2) (by decide +kernel) rfl rfl rfl (by decide +kernel)
set_option maxRecDepth 65536 in
theorem w_c5 : (Jvm.Cond.code ({ cls := "com/example/libmosaic/libmosaic/encoding/ByteReader", name := "require", desc := "(I)V" } : Jvm.MethodName) prog_9_method_10_code (2 : Nat) (Option.none : Option Jvm.ClassFile.FieldType)).before args0 about1 = true := code_word (m := ⟨2, 4⟩) (meth := k2m4) (c := k2c4) (by decide +kernel) rfl rfl rfl (by decide +kernel)
set_option maxRecDepth 65536 in
theorem w_c6 : (Jvm.Cond.code ({ cls := "java/util/Arrays", name := "copyOfRange", desc := "([BII)[B" } : Jvm.MethodName) jdk_65_method_132_code (3 : Nat) (Option.some (Jvm.ClassFile.FieldType.array Jvm.ClassFile.FieldType.byte))).before args0 about1 = true := code_word (m := ⟨3, 2⟩) (meth := k3m2) (c := k3c2) (by decide +kernel) rfl rfl rfl (by decide +kernel)
set_option maxRecDepth 65536 in
theorem w_c7 : (Jvm.Cond.code ({ cls := "java/util/Arrays", name := "copyOfRangeByte", desc := "([BII)[B" } : Jvm.MethodName) jdk_65_method_133_code (5 : Nat) (Option.some (Jvm.ClassFile.FieldType.array Jvm.ClassFile.FieldType.byte))).before args0 about1 = true := code_word (m := ⟨3, 3⟩) (meth := k3m3) (c := k3c3) (by decide +kernel) rfl rfl rfl (by decide +kernel)
set_option maxRecDepth 65536 in
theorem w_c8 : (Jvm.Cond.code ({ cls := "java/util/Arrays", name := "checkLength", desc := "(II)V" } : Jvm.MethodName) jdk_65_method_131_code (2 : Nat) (Option.none : Option Jvm.ClassFile.FieldType)).before args0 about1 = true := code_word (m := ⟨3, 1⟩) (meth := k3m1) (c := k3c1) (by decide +kernel) rfl rfl rfl (by decide +kernel)
set_option maxRecDepth 65536 in
theorem w_c9 : (Jvm.Cond.code ({ cls := "java/lang/Math", name := "min", desc := "(II)I" } : Jvm.MethodName) jdk_29_method_69_code (2 : Nat) (Option.some Jvm.ClassFile.FieldType.int)).before args0 about1 = true := code_word (m := ⟨5, 1⟩) (meth := k5m1) (c := k5c1) (by decide +kernel) rfl rfl rfl (by decide +kernel)
set_option maxRecDepth 65536 in
theorem w_c10 : (Jvm.Cond.code ({ cls := "com/example/libmosaic/libmosaic/encoding/ByteReader", name := "read", desc := "()I" } : Jvm.MethodName) prog_9_method_2_code (1 : Nat) (Option.some Jvm.ClassFile.FieldType.int)).before args0 about1 = true := code_word (m := ⟨2, 1⟩) (meth := k2m1) (c := k2c1) (by decide +kernel) rfl rfl rfl (by decide +kernel)
def codes1 : List Jvm.Cond := [Jvm.Cond.code x code maxLocals ret, Jvm.Cond.code ({ cls := "com/example/libmosaic/libmosaic/encoding/ByteReader", name := "<init>", desc := "([BI)V" } : Jvm.MethodName) prog_9_method_1_code (3 : Nat) (Option.none : Option Jvm.ClassFile.FieldType), Jvm.Cond.code ({ cls := "java/lang/Object", name := "<init>", desc := "()V" } : Jvm.MethodName) object_method_1_code (1 : Nat) (Option.none : Option Jvm.ClassFile.FieldType), Jvm.Cond.code ({ cls := "com/example/libmosaic/libmosaic/encoding/ByteReader", name := "atEnd", desc := "()Z" } : Jvm.MethodName) prog_9_method_9_code (1 : Nat) (Option.some Jvm.ClassFile.FieldType.boolean), Jvm.Cond.code ({ cls := "com/example/libmosaic/libmosaic/encoding/ByteReader", name := "read", desc := "(I)[B" } : Jvm.MethodName) prog_9_method_3_code (4 : Nat) (Option.some (Jvm.ClassFile.FieldType.array Jvm.ClassFile.FieldType.byte)), Jvm.Cond.code ({ cls := "com/example/libmosaic/libmosaic/encoding/ByteReader", name := "require", desc := "(I)V" } : Jvm.MethodName) prog_9_method_10_code (2 : Nat) (Option.none : Option Jvm.ClassFile.FieldType), Jvm.Cond.code ({ cls := "java/util/Arrays", name := "copyOfRange", desc := "([BII)[B" } : Jvm.MethodName) jdk_65_method_132_code (3 : Nat) (Option.some (Jvm.ClassFile.FieldType.array Jvm.ClassFile.FieldType.byte)), Jvm.Cond.code ({ cls := "java/util/Arrays", name := "copyOfRangeByte", desc := "([BII)[B" } : Jvm.MethodName) jdk_65_method_133_code (5 : Nat) (Option.some (Jvm.ClassFile.FieldType.array Jvm.ClassFile.FieldType.byte)), Jvm.Cond.code ({ cls := "java/util/Arrays", name := "checkLength", desc := "(II)V" } : Jvm.MethodName) jdk_65_method_131_code (2 : Nat) (Option.none : Option Jvm.ClassFile.FieldType), Jvm.Cond.code ({ cls := "java/lang/Math", name := "min", desc := "(II)I" } : Jvm.MethodName) jdk_29_method_69_code (2 : Nat) (Option.some Jvm.ClassFile.FieldType.int), Jvm.Cond.code ({ cls := "com/example/libmosaic/libmosaic/encoding/ByteReader", name := "read", desc := "()I" } : Jvm.MethodName) prog_9_method_2_code (1 : Nat) (Option.some Jvm.ClassFile.FieldType.int)]
set_option maxRecDepth 65536 in
theorem codes_eq : words1.filter isCode = codes1 := rfl
theorem w_codes : ∀ c ∈ words1.filter isCode, c.before args0 about1 = true := by
  rw [codes_eq]
  intro c hc
  simp only [codes1, List.mem_cons, List.not_mem_nil, or_false] at hc
  rcases hc with rfl | rfl | rfl | rfl | rfl | rfl | rfl | rfl | rfl | rfl | rfl
  · exact w_c0
  · exact w_c1
  · exact w_c2
  · exact w_c3
  · exact w_c4
  · exact w_c5
  · exact w_c6
  · exact w_c7
  · exact w_c8
  · exact w_c9
  · exact w_c10
set_option maxRecDepth 65536 in
theorem w_t1 : (words1.take 24).all (fun c => isCode c || c.before args0 about1) = true := by decide +kernel
set_option maxRecDepth 65536 in
theorem w_t2 : ((words1.drop 24).take 24).all (fun c => isCode c || c.before args0 about1) = true := by decide +kernel
set_option maxRecDepth 65536 in
theorem w_t3 : ((words1.drop 24).drop 24).all (fun c => isCode c || c.before args0 about1) = true := by decide +kernel
theorem w_tables : (allAtoms (Jvm.Cond.code x code maxLocals ret :: tables_1)).before args0 about1 = true := by
  rw [allAtoms_all]
  show words1.all (fun c => c.before args0 about1) = true
  refine all_split ?_ w_codes
  rw [← List.take_append_drop 24 words1, List.all_append, w_t1, ← List.take_append_drop 24 (words1.drop 24), List.all_append, w_t2, w_t3]
  rfl
set_option maxRecDepth 65536 in
theorem w_case : (Jvm.Cond.and given_1 narrow_1).before args0 about1 = true := by decide +kernel
theorem w_applies : (headSpec (Jvm.Cond.code x code maxLocals ret :: tables_1) room_1).applies x e0.platform about1 = true :=
  (Spec.applies_iff w_frames).mpr ⟨w_running, w_runnable, w_alone, w_named, w_hears, w_ripe, w_room, w_tables⟩
theorem atStart : AtStart classFile x code maxLocals ret World_1 tables_1 room_1 Calls_1 rest_1 Pre_1 launch0 p0 e0 about1 theMethod args0 below0 :=
  ⟨lists_1, trivial, launch0.admits_env _ _ _, launch0.least_env, fairChoices_fair.cas, fairChoices_fair.clock, w_frames, w_args, w_heap, w_applies, trivial, trivial, w_case⟩
end start1
theorem witness_1 : WitnessClaimed_1 := ⟨start1.p0, start1.e0, start1.about1, start1.theMethod, start1.args0, start1.below0, start1.atStart⟩
end Jvm.Pilot.@@N@@
