import JvmDerived
import JvmDerived.Pilot.@@N@@Statement
import JvmDerived.Pilot.@@N@@Code
set_option linter.unusedVariables false
set_option linter.unusedSimpArgs false
namespace Jvm.RoadKit
open Sem ClassFile Op Lib Jvm.Stand Jvm.Free Jvm.LawKit
section New
variable {p : Program} {l : Launch} {e : Env} {R : Room} {s : State} {m : MethodId} {args : Array Value} {below : List Frame} {meth : Method} {c : Code} {T : State} {locs : List Loc} {cells slots : Nat}
theorem retI (X : Stand p l e R s m args below meth c T locs cells slots) (hx : p.tables.exec = Jvm.exec) {pc : Nat} {Ls : Array Slot} {z : Int32} {rest : List Value} (hret : meth.sig.returnType = some .int) (hd : decode c.code pc = .ok (.ireturn, 1)) {fs : List Frame}
    (hl : ∀ (f : JFrame) (acts : List Action), f.method = m → f.locked = none → f.entered = [] → (doReturn e (T.setTop f) acts (some (.int z))).1 = T.setFrames fs) : Steps p.tables e below (T.setTop (mkF m pc Ls (.int z :: rest))) (T.setFrames fs) := by
  have hm' : T.vm.method? m = some meth := X.method'
  have hn : narrow .int (.int z) = .int z := rfl
  show Steps p.tables e below (T.setTop { method := m, pc := pc, locals := Ls, stack := _ :: rest, locked := none }) _
  jvm_step X.here [X.here.top, hx, hd, hm', hret, hn]
  first | (intro acts; rw [hl _ acts rfl rfl rfl]) | rw [hl _ _ rfl rfl rfl]
  exact Steps.refl _
end New
end Jvm.RoadKit
namespace Jvm.Pilot.@@N@@
open Jvm Jvm.ClassFile Sem Op Lib Jvm.Free Jvm.Stand Jvm.LawKit Jvm.RoadKit Bundle Jvm.Pilot.@@N@@.Jvm.D
/-- a boolean of the law's, as the int that the machine holds -/
def bI (P : Prop) [Decidable P] : Int32 := if P then 1 else 0
theorem bI_t {P : Prop} [Decidable P] (h : P) : bI P = (1 : Int32) := if_pos h
theorem bI_f {P : Prop} [Decidable P] (h : ¬ P) : bI P = (0 : Int32) := if_neg h
theorem bI_n {P : Prop} [Decidable P] (h : P) : ¬ (bI P = (0 : Int32)) := by rw [bI_t h]; decide
theorem bI_iff {P Q : Prop} [Decidable P] [Decidable Q] (h : P ↔ Q) : bI P = bI Q := by
  by_cases p : P
  · rw [bI_t p, bI_t (h.mp p)]
  · rw [bI_f p, bI_f fun q => p (h.mpr q)]
theorem bI_nar {P : Prop} [Decidable P] : nar .boolean (bI P) = bI P := by
  by_cases p : P
  · rw [bI_t p]; rfl
  · rw [bI_f p]; rfl
theorem own_sel {args : Array Value} {s : State} {y z : MethodName} (hn : (Jvm.Cond.instanceMethod y).before args s = true) (hp : (Jvm.Cond.privateMethod y).before args s = true) (hs : (Jvm.Cond.selects y.cls z z).before args s = true) (hz : z.cls = y.cls) (hx : y.cls ≠ "java/lang/invoke/MethodHandle" ∧ y.cls ≠ "java/lang/invoke/VarHandle") : (Jvm.Cond.selects y.cls y y).before args s = true := by
  obtain ⟨mk, methM, hnamed, hmethM, hstM, habM⟩ := Cond.instanceMethod_spec hn
  have hpr := Cond.privateMethod_at hp mk methM hnamed hmethM
  obtain ⟨c2, r2, m2, q1, q2, q3, q4, kP, hkP, hkPi⟩ := Cond.selects_spec hs
  have hf := State.methodFound?_of_named hnamed hx
  have c1 := findClass_of_methodNamed hnamed
  have c3 := findClass_of_methodNamed q3
  rw [hz] at c3
  have e : m2.cls = mk.cls := Option.some.inj (c3.symm.trans c1)
  rw [e] at hkP
  refine Cond.before_iff.mpr ?_
  simp [Cond.value, q1, hf, hnamed, selectMethod_private hmethM hpr, hkP, hkPi]
theorem own_tab : ∀ i : Fin 256, (Int32.ofInt (i.1 : Int)) ^^^ (255 : Int32) = (255 : Int32) - (Int32.ofInt (i.1 : Int)) := by decide +kernel
theorem own_x0 (u : Int32) : u ^^^ (0 : Int32) = u := by
  refine Int32.toBitVec_inj.mp ?_
  rw [Int32.toBitVec_xor]
  exact BitVec.xor_zero
theorem own_xor (u : Int32) (h0 : 0 ≤ u.toInt) (h1 : u.toInt < 256) : u ^^^ (255 : Int32) = (255 : Int32) - u := by
  have e : u = Int32.ofInt (((⟨u.toInt.toNat, by omega⟩ : Fin 256).1 : Nat) : Int) := by
    show u = Int32.ofInt ((u.toInt.toNat : Nat) : Int)
    rw [Int.toNat_of_nonneg h0, Int32.ofInt_toInt]
  have t := own_tab ⟨u.toInt.toNat, by omega⟩
  rw [← e] at t
  exact t
theorem own_byte (a : Int32) : (((a.toInt8.toInt32)).toInt8.toInt32 &&& (255 : Int32)) = (a &&& (255 : Int32)) := by
  refine Int32.toInt_inj.mp ?_
  rw [c_mask _ 255 8 (by decide) (by decide), c_mask _ 255 8 (by decide) (by decide)]
  have h1 := c_i2b a
  have h2 := c_i2b (a.toInt8.toInt32)
  omega
theorem own_fin (a b : Int32) : ((((a.toInt8.toInt32)).toInt8.toInt32 &&& (255 : Int32)) ^^^ (if b = (0 : Int32) then (0 : Int32) else (255 : Int32))) = (if b = (0 : Int32) then (a &&& (255 : Int32)) else ((255 : Int32) - (a &&& (255 : Int32)))) := by
  rw [own_byte]
  have e := c_mask a 255 8 (by decide) (by decide)
  by_cases h : b = (0 : Int32)
  · rw [if_pos h, if_pos h]; exact own_x0 _
  · rw [if_neg h, if_neg h]; exact own_xor _ (by omega) (by omega)
theorem d1_0 : decode prog_9_method_1_code 0 = .ok (.aload_n 0, 1) := by decide +kernel
theorem d1_1 : decode prog_9_method_1_code 1 = .ok (.invokespecial 1, 3) := by decide +kernel
theorem d1_4 : decode prog_9_method_1_code 4 = .ok (.iload_n 2, 1) := by decide +kernel
theorem d1_5 : decode prog_9_method_1_code 5 = .ok (.ifCond .lt 9, 3) := by decide +kernel
theorem d1_8 : decode prog_9_method_1_code 8 = .ok (.iload_n 2, 1) := by decide +kernel
theorem d1_9 : decode prog_9_method_1_code 9 = .ok (.aload_n 1, 1) := by decide +kernel
theorem d1_10 : decode prog_9_method_1_code 10 = .ok (.arraylength, 1) := by decide +kernel
theorem d1_11 : decode prog_9_method_1_code 11 = .ok (.if_icmp .le 19, 3) := by decide +kernel
theorem d1_30 : decode prog_9_method_1_code 30 = .ok (.aload_n 0, 1) := by decide +kernel
theorem d1_31 : decode prog_9_method_1_code 31 = .ok (.aload_n 1, 1) := by decide +kernel
theorem d1_32 : decode prog_9_method_1_code 32 = .ok (.putfield 16, 3) := by decide +kernel
theorem d1_35 : decode prog_9_method_1_code 35 = .ok (.aload_n 0, 1) := by decide +kernel
theorem d1_36 : decode prog_9_method_1_code 36 = .ok (.iload_n 2, 1) := by decide +kernel
theorem d1_37 : decode prog_9_method_1_code 37 = .ok (.putfield 22, 3) := by decide +kernel
theorem d1_40 : decode prog_9_method_1_code 40 = .ok (.return_, 1) := by decide +kernel
theorem pn_1 : plainName "com/example/libmosaic/libmosaic/encoding/ByteReader" = true := by first | (simp [plainName, overriddenIn]; done) | decide +kernel
theorem ef_1_rm1 (m : MethodId) (x0 : Addr) (x1 : Addr) : entryFrame m #[(.ref x0), (.ref x1), (.int (0 : Int32))] 3 = mkF m 0 #[.val (.ref x0), .val (.ref x1), .val (.int (0 : Int32))] [] := by first | (simp [entryFrame, mkF, argsToLocals, Value.category]; done) | rfl
def Q1 (Z : State) (a1_0 : Addr) (a1_1 : Addr) (ka : ClassId) (e0_ : Int32) (e1_ : Int32) (e2_ : Int32) (w1_bytes_a1_0 : Value) (w1_position_a1_0 : Int32) (w1_complement_a1_0 : Int32) (h0 : Heap) (n0 : Nat) (v : Option Value) (h : Heap) (L : List Loc) : Prop := v = none ∧ Fr n0 L ∧ Keep h0 h [a1_0] ∧ Exa Z h a1_0 "com/example/libmosaic/libmosaic/encoding/ByteReader" ∧ Fld Z h a1_0 "com/example/libmosaic/libmosaic/encoding/ByteReader" "complement" "I" (.int w1_complement_a1_0) ∧ Fld Z h a1_0 "com/example/libmosaic/libmosaic/encoding/ByteReader" "bytes" "[B" (.ref a1_1) ∧ Fld Z h a1_0 "com/example/libmosaic/libmosaic/encoding/ByteReader" "position" "I" (.int (0 : Int32))
set_option maxRecDepth 65536 in
set_option maxHeartbeats 40000000 in
theorem rm1 (l : Launch) (Z : State) (a0 : Array Value) (hw : ∀ d ∈ tables_1, d.before a0 Z = true) (ws : List Jvm.Cond) (a1_0 : Addr) (a1_1 : Addr) (ka : ClassId) (e0_ : Int32) (e1_ : Int32) (e2_ : Int32) (w1_bytes_a1_0 : Value) (w1_position_a1_0 : Int32) (w1_complement_a1_0 : Int32) (h0 : Heap) (n0 : Nat) (Z0 : n0 ≤ h0.size) (VA : Arv Z h0 a1_1 ka .byte (3 : Int32) [(.int e0_), (.int e1_), (.int e2_)] (.int (0 : Int32))) (ne_a1_1_a1_0 : a1_1 ≠ a1_0) (E_a1_0 : Exa Z h0 a1_0 "com/example/libmosaic/libmosaic/encoding/ByteReader") (F_bytes_a1_0 : Fld Z h0 a1_0 "com/example/libmosaic/libmosaic/encoding/ByteReader" "bytes" "[B" w1_bytes_a1_0) (F_position_a1_0 : Fld Z h0 a1_0 "com/example/libmosaic/libmosaic/encoding/ByteReader" "position" "I" (.int w1_position_a1_0)) (F_complement_a1_0 : Fld Z h0 a1_0 "com/example/libmosaic/libmosaic/encoding/ByteReader" "complement" "I" (.int w1_complement_a1_0)) (g_a1_0 : n0 ≤ a1_0) :
    MetFree l (⟨"com/example/libmosaic/libmosaic/encoding/ByteReader", "<init>", "([BI)V"⟩ : MethodName) (head1 (Jvm.Cond.code (⟨"com/example/libmosaic/libmosaic/encoding/ByteReader", "<init>", "([BI)V"⟩ : MethodName) prog_9_method_1_code 3 none :: ws) ({ frames := 1, cells := 0, slots := 0, locals := 12 } : Room)) (fun a U => a = #[(.ref a1_0), (.ref a1_1), (.int (0 : Int32))] ∧ Z.Warmed39 U.vm ∧ U.heap = h0) (fun _ _ _ _ _ => True) (fun _ U o U' => ∃ v L, o = .returned v ∧ Q1 Z a1_0 a1_1 ka e0_ e1_ e2_ w1_bytes_a1_0 w1_position_a1_0 w1_complement_a1_0 h0 n0 v U'.heap L ∧ FrameEnd U o U' L ({ frames := 1, cells := 0, slots := 0, locals := 12 } : Room).cells ({ frames := 1, cells := 0, slots := 0, locals := 12 } : Room).slots) := by
  refine MetFree.of_bodySF (plainFor_of_name pn_1) hisR ?_
  intro p e s m args below meth c s₁ Bd hml0 hP hK
  obtain ⟨rfl, hZ, hh⟩ := hP
  have hVV : ∀ (i : Nat) (d : Jvm.Cond), tables_1[i]? = some d → d.before a0 Z = true := fun i d h => hw d (List.mem_of_getElem? h)
  have hx := Bd.exec
  have hby := Bd.bytes
  have hml : c.maxLocals = 3 := hml0
  have hown : s.vm.findClass "com/example/libmosaic/libmosaic/encoding/ByteReader" = some m.cls := findClass_of_methodNamed Bd.named
  have hnm := (name_of_methodNamed Bd.named Bd.method).1
  have X0 : Stand p l e ({ frames := 1, cells := 0, slots := 0, locals := 12 } : Room) s m #[(.ref a1_0), (.ref a1_1), (.int (0 : Int32))] below meth c s₁ [] 0 0 := Stand.of_body Bd
  have e0 : s₁.heap = h0 := by rw [← hh, Bd.state]; rfl
  have N0 := Fr.nil n0
  have pre0 : ∀ t, Steps p.tables e below (s₁.setTop (mkF m 0 #[.val (.ref a1_0), .val (.ref a1_1), .val (.int (0 : Int32))] [])) t → Steps p.tables e below (s₁.setTop (entryFrame m #[(.ref a1_0), (.ref a1_1), (.int (0 : Int32))] 3)) t := fun t k => castTop (ef_1_rm1 m a1_0 a1_1) k
  obtain ⟨T1, X1, e1, st1⟩ := initO X0 hx hZ hown (hVV 7 _ rfl) (hVV 8 _ rfl) (hVV 9 _ rfl) e0 (g := (mkF m 1 #[.val (.ref a1_0), .val (.ref a1_1), .val (.int (0 : Int32))] [(.ref a1_0)])) rfl (by rw [hml]; rfl) rfl (hb hby d1_1) (by decide) (W := 0) (by show 2 * 0 + _ ≤ _; exact Nat.le_of_eq rfl) (by decide)
  have pre2 : ∀ t, Steps p.tables e below (T1.setTop (mkF m 4 #[.val (.ref a1_0), .val (.ref a1_1), .val (.int (0 : Int32))] [])) t → Steps p.tables e below (s₁.setTop (entryFrame m #[(.ref a1_0), (.ref a1_1), (.int (0 : Int32))] 3)) t := fun t k => pre0 t (by
    show Steps p.tables e below (s₁.setTop (mkF m 0 #[.val (.ref a1_0), .val (.ref a1_1), .val (.int (0 : Int32))] [])) _
    refine XS.aloadN X0.here hx rfl (hb hby d1_0) rfl rfl ?_
    show Steps p.tables e below (s₁.setTop (mkF m 1 #[.val (.ref a1_0), .val (.ref a1_1), .val (.int (0 : Int32))] [(.ref a1_0)])) _
    refine st1 _ ?_
    exact k)
  obtain ⟨cl3, Ar3, q3, S3, N3, H3, G3⟩ := id VA
  obtain ⟨T4, h4, X4, e4, W4, st4⟩ := putF X1 hx hZ hown (host := "") (Or.inl (hVV 10 _ rfl)) Via.refl e1 F_bytes_a1_0 E_a1_0 (Or.inr ⟨(hVV 11 _ rfl), rfl, hnm⟩) (hVV 2 _ rfl) (ty := (.array .byte)) (by decide) rfl rfl (g := (mkF m 32 #[.val (.ref a1_0), .val (.ref a1_1), .val (.int (0 : Int32))] [(.ref a1_1), (.ref a1_0)])) rfl rfl (hb hby d1_32)
  have pre5 : ∀ t, Steps p.tables e below (T4.setTop (mkF m 35 #[.val (.ref a1_0), .val (.ref a1_1), .val (.int (0 : Int32))] [])) t → Steps p.tables e below (s₁.setTop (entryFrame m #[(.ref a1_0), (.ref a1_1), (.int (0 : Int32))] 3)) t := fun t k => pre2 t (by
    show Steps p.tables e below (T1.setTop (mkF m 4 #[.val (.ref a1_0), .val (.ref a1_1), .val (.int (0 : Int32))] [])) _
    refine XS.iloadN X1.here hx rfl (hb hby d1_4) rfl ?_
    show Steps p.tables e below (T1.setTop (mkF m 5 #[.val (.ref a1_0), .val (.ref a1_1), .val (.int (0 : Int32))] [(.int (0 : Int32))])) _
    refine XS.ifNo X1.here hx rfl (hb hby d1_5) rfl ((if0 _ _).trans (flt (by decide : ¬ ((0 : Int32) < (0 : Int32)))).1) ?_
    show Steps p.tables e below (T1.setTop (mkF m 8 #[.val (.ref a1_0), .val (.ref a1_1), .val (.int (0 : Int32))] [])) _
    refine XS.iloadN X1.here hx rfl (hb hby d1_8) rfl ?_
    show Steps p.tables e below (T1.setTop (mkF m 9 #[.val (.ref a1_0), .val (.ref a1_1), .val (.int (0 : Int32))] [(.int (0 : Int32))])) _
    refine XS.aloadN X1.here hx rfl (hb hby d1_9) rfl rfl ?_
    show Steps p.tables e below (T1.setTop (mkF m 10 #[.val (.ref a1_0), .val (.ref a1_1), .val (.int (0 : Int32))] [(.ref a1_1), (.int (0 : Int32))])) _
    refine X1.arraylength hx (by rw [e1]; exact Ar3.1) (State.isArrayOf_alike hZ.alike Ar3.2.1) (g := (mkF m 10 #[.val (.ref a1_0), .val (.ref a1_1), .val (.int (0 : Int32))] [(.ref a1_1), (.int (0 : Int32))])) rfl rfl (hb hby d1_10) _ ?_
    rw [len_of S3 N3]
    show Steps p.tables e below (T1.setTop (mkF m 11 #[.val (.ref a1_0), .val (.ref a1_1), .val (.int (0 : Int32))] [(.int (3 : Int32)), (.int (0 : Int32))])) _
    refine XS.icmpYes X1.here hx rfl (pc0 := 11) (pc' := 30) rfl (hb hby d1_11) rfl (flt (by decide : ¬ ((3 : Int32) < (0 : Int32)))).2.2.2 (by decide) (by decide) ?_
    show Steps p.tables e below (T1.setTop (mkF m 30 #[.val (.ref a1_0), .val (.ref a1_1), .val (.int (0 : Int32))] [])) _
    refine XS.aloadN X1.here hx rfl (hb hby d1_30) rfl rfl ?_
    show Steps p.tables e below (T1.setTop (mkF m 31 #[.val (.ref a1_0), .val (.ref a1_1), .val (.int (0 : Int32))] [(.ref a1_0)])) _
    refine XS.aloadN X1.here hx rfl (hb hby d1_31) rfl rfl ?_
    show Steps p.tables e below (T1.setTop (mkF m 32 #[.val (.ref a1_0), .val (.ref a1_1), .val (.int (0 : Int32))] [(.ref a1_1), (.ref a1_0)])) _
    refine st4 _ ?_
    exact k)
  have f6 := VA.other W4 ne_a1_1_a1_0
  have f7 := E_a1_0.wr W4
  have f8 := F_position_a1_0.other W4 (Or.inr (slot_ne (Or.inl (hVV 13 _ rfl)) (Or.inr (hVV 11 _ rfl)) (by decide) (t := .int) (t' := (.array .byte)) (by decide) (by decide)))
  have f9 := F_complement_a1_0.other W4 (Or.inr (slot_ne (Or.inl (hVV 20 _ rfl)) (Or.inr (hVV 11 _ rfl)) (by decide) (t := .int) (t' := (.array .byte)) (by decide) (by decide)))
  have z10 := Nat.le_trans Z0 (Keep.of_wr W4).1
  have k11 := (Keep.refl h0 [a1_0]).wr W4 (Or.inl (List.mem_of_getElem? (i := 0) rfl))
  have f12 := F_bytes_a1_0.same W4
  have N13 := Fr.snoc X4 N0 g_a1_0
  obtain ⟨T14, h14, X14, e14, W14, st14⟩ := putF X4 hx hZ hown (host := "") (Or.inl (hVV 12 _ rfl)) Via.refl e4 f8 f7 (Or.inl (hVV 13 _ rfl)) (hVV 2 _ rfl) (ty := .int) (by decide) rfl rfl (g := (mkF m 37 #[.val (.ref a1_0), .val (.ref a1_1), .val (.int (0 : Int32))] [(.int (0 : Int32)), (.ref a1_0)])) rfl rfl (hb hby d1_37)
  have pre15 : ∀ t, Steps p.tables e below (T14.setTop (mkF m 40 #[.val (.ref a1_0), .val (.ref a1_1), .val (.int (0 : Int32))] [])) t → Steps p.tables e below (s₁.setTop (entryFrame m #[(.ref a1_0), (.ref a1_1), (.int (0 : Int32))] 3)) t := fun t k => pre5 t (by
    show Steps p.tables e below (T4.setTop (mkF m 35 #[.val (.ref a1_0), .val (.ref a1_1), .val (.int (0 : Int32))] [])) _
    refine XS.aloadN X4.here hx rfl (hb hby d1_35) rfl rfl ?_
    show Steps p.tables e below (T4.setTop (mkF m 36 #[.val (.ref a1_0), .val (.ref a1_1), .val (.int (0 : Int32))] [(.ref a1_0)])) _
    refine XS.iloadN X4.here hx rfl (hb hby d1_36) rfl ?_
    show Steps p.tables e below (T4.setTop (mkF m 37 #[.val (.ref a1_0), .val (.ref a1_1), .val (.int (0 : Int32))] [(.int (0 : Int32)), (.ref a1_0)])) _
    refine st14 _ ?_
    exact k)
  have f16 := f6.other W14 ne_a1_1_a1_0
  have f17 := f7.wr W14
  have f18 := f9.other W14 (Or.inr (slot_ne (Or.inl (hVV 20 _ rfl)) (Or.inl (hVV 13 _ rfl)) (by decide) (t := .int) (t' := .int) (by decide) (by decide)))
  have f19 := f12.other W14 (Or.inr (slot_ne (Or.inr (hVV 11 _ rfl)) (Or.inl (hVV 13 _ rfl)) (by decide) (t := (.array .byte)) (t' := .int) (by decide) (by decide)))
  have z20 := Nat.le_trans z10 (Keep.of_wr W14).1
  have k21 := k11.wr W14 (Or.inl (List.mem_of_getElem? (i := 0) rfl))
  have f22 := f8.same W14
  have N23 := Fr.snoc X14 N13 g_a1_0
  obtain ⟨fs, hr, hrun, hended, hW, hsame⟩ := X14.leave (v := none) (fun _ => rfl)
  refine ⟨_, _, pre15 _ ?_, hrun, hended, _, _, rfl, ?_, ⟨_, rfl⟩, hW, hsame.mono (by decide) (by decide)⟩
  · show Steps p.tables e below (T14.setTop (mkF m 40 #[.val (.ref a1_0), .val (.ref a1_1), .val (.int (0 : Int32))] [])) _
    exact X14.returnOut hx Bd.returns (hb hby d1_40) hr
  · show Q1 Z a1_0 a1_1 ka e0_ e1_ e2_ w1_bytes_a1_0 w1_position_a1_0 w1_complement_a1_0 h0 n0 _ T14.heap _
    rw [e14]
    exact ⟨rfl, N23, k21, f17, f18, f19, f22⟩
theorem d3_0 : decode prog_9_method_7_code 0 = .ok (.aload_n 0, 1) := by decide +kernel
theorem d3_1 : decode prog_9_method_7_code 1 = .ok (.iload_n 1, 1) := by decide +kernel
theorem d3_2 : decode prog_9_method_7_code 2 = .ok (.ifCond .eq 9, 3) := by decide +kernel
theorem d3_5 : decode prog_9_method_7_code 5 = .ok (.sipush 255, 3) := by decide +kernel
theorem d3_8 : decode prog_9_method_7_code 8 = .ok (.goto 4, 3) := by decide +kernel
theorem d3_11 : decode prog_9_method_7_code 11 = .ok (.iconst 0, 1) := by decide +kernel
theorem d3_12 : decode prog_9_method_7_code 12 = .ok (.putfield 30, 3) := by decide +kernel
theorem d3_15 : decode prog_9_method_7_code 15 = .ok (.aload_n 0, 1) := by decide +kernel
theorem d3_16 : decode prog_9_method_7_code 16 = .ok (.areturn, 1) := by decide +kernel
theorem pn_3 : plainName "com/example/libmosaic/libmosaic/encoding/ByteReader" = true := by first | (simp [plainName, overriddenIn]; done) | decide +kernel
theorem ef_3 (m : MethodId) (x0 : Addr) (x1 : Int32) : entryFrame m #[(.ref x0), (.int x1)] 2 = mkF m 0 #[.val (.ref x0), .val (.int x1)] [] := by first | (simp [entryFrame, mkF, argsToLocals, Value.category]; done) | rfl
def Q3 (Z : State) (a3_0 : Addr) (p3_1 : Int32) (w3_bytes_a3_0 : Value) (w3_position_a3_0 : Int32) (w3_complement_a3_0 : Int32) (h0 : Heap) (n0 : Nat) (v : Option Value) (h : Heap) (L : List Loc) : Prop := v = some (.ref a3_0) ∧ Fr n0 L ∧ Keep h0 h [a3_0] ∧ Exa Z h a3_0 "com/example/libmosaic/libmosaic/encoding/ByteReader" ∧ Fld Z h a3_0 "com/example/libmosaic/libmosaic/encoding/ByteReader" "bytes" "[B" w3_bytes_a3_0 ∧ Fld Z h a3_0 "com/example/libmosaic/libmosaic/encoding/ByteReader" "position" "I" (.int w3_position_a3_0) ∧ Fld Z h a3_0 "com/example/libmosaic/libmosaic/encoding/ByteReader" "complement" "I" (.int (if p3_1 = (0 : Int32) then (0 : Int32) else (255 : Int32)))
set_option maxRecDepth 65536 in
set_option maxHeartbeats 40000000 in
theorem rm3 (l : Launch) (Z : State) (a0 : Array Value) (hw : ∀ d ∈ tables_1, d.before a0 Z = true) (ws : List Jvm.Cond) (a3_0 : Addr) (p3_1 : Int32) (w3_bytes_a3_0 : Value) (w3_position_a3_0 : Int32) (w3_complement_a3_0 : Int32) (h0 : Heap) (n0 : Nat) (Z0 : n0 ≤ h0.size) (E_a3_0 : Exa Z h0 a3_0 "com/example/libmosaic/libmosaic/encoding/ByteReader") (F_bytes_a3_0 : Fld Z h0 a3_0 "com/example/libmosaic/libmosaic/encoding/ByteReader" "bytes" "[B" w3_bytes_a3_0) (F_position_a3_0 : Fld Z h0 a3_0 "com/example/libmosaic/libmosaic/encoding/ByteReader" "position" "I" (.int w3_position_a3_0)) (F_complement_a3_0 : Fld Z h0 a3_0 "com/example/libmosaic/libmosaic/encoding/ByteReader" "complement" "I" (.int w3_complement_a3_0)) (g_a3_0 : n0 ≤ a3_0) :
    MetFree l (⟨"com/example/libmosaic/libmosaic/encoding/ByteReader", "complement", "(Z)Lcom/example/libmosaic/libmosaic/encoding/ByteReader;"⟩ : MethodName) (head1 (Jvm.Cond.code (⟨"com/example/libmosaic/libmosaic/encoding/ByteReader", "complement", "(Z)Lcom/example/libmosaic/libmosaic/encoding/ByteReader;"⟩ : MethodName) prog_9_method_7_code 2 (some (.object "com/example/libmosaic/libmosaic/encoding/ByteReader")) :: ws) ({ frames := 0, cells := 0, slots := 0, locals := 0 } : Room)) (fun a U => a = #[(.ref a3_0), (.int p3_1)] ∧ Z.Warmed39 U.vm ∧ U.heap = h0) (fun _ _ _ _ _ => True) (fun _ U o U' => ∃ v L, o = .returned v ∧ Q3 Z a3_0 p3_1 w3_bytes_a3_0 w3_position_a3_0 w3_complement_a3_0 h0 n0 v U'.heap L ∧ FrameEnd U o U' L ({ frames := 0, cells := 0, slots := 0, locals := 0 } : Room).cells ({ frames := 0, cells := 0, slots := 0, locals := 0 } : Room).slots) := by
  refine MetFree.of_bodySF (plainFor_of_name pn_3) hisR ?_
  intro p e s m args below meth c s₁ Bd hml0 hP hK
  obtain ⟨rfl, hZ, hh⟩ := hP
  have hVV : ∀ (i : Nat) (d : Jvm.Cond), tables_1[i]? = some d → d.before a0 Z = true := fun i d h => hw d (List.mem_of_getElem? h)
  have hx := Bd.exec
  have hby := Bd.bytes
  have hml : c.maxLocals = 2 := hml0
  have hown : s.vm.findClass "com/example/libmosaic/libmosaic/encoding/ByteReader" = some m.cls := findClass_of_methodNamed Bd.named
  have hnm := (name_of_methodNamed Bd.named Bd.method).1
  have X0 : Stand p l e ({ frames := 0, cells := 0, slots := 0, locals := 0 } : Room) s m #[(.ref a3_0), (.int p3_1)] below meth c s₁ [] 0 0 := Stand.of_body Bd
  have e0 : s₁.heap = h0 := by rw [← hh, Bd.state]; rfl
  have N0 := Fr.nil n0
  have pre0 : ∀ t, Steps p.tables e below (s₁.setTop (mkF m 0 #[.val (.ref a3_0), .val (.int p3_1)] [])) t → Steps p.tables e below (s₁.setTop (entryFrame m #[(.ref a3_0), (.int p3_1)] 2)) t := fun t k => castTop (ef_3 m a3_0 p3_1) k
  have pre2 : ∀ t, Steps p.tables e below (s₁.setTop (mkF m 2 #[.val (.ref a3_0), .val (.int p3_1)] [(.int p3_1), (.ref a3_0)])) t → Steps p.tables e below (s₁.setTop (entryFrame m #[(.ref a3_0), (.int p3_1)] 2)) t := fun t k => pre0 t (by
    show Steps p.tables e below (s₁.setTop (mkF m 0 #[.val (.ref a3_0), .val (.int p3_1)] [])) _
    refine XS.aloadN X0.here hx rfl (hb hby d3_0) rfl rfl ?_
    show Steps p.tables e below (s₁.setTop (mkF m 1 #[.val (.ref a3_0), .val (.int p3_1)] [(.ref a3_0)])) _
    refine XS.iloadN X0.here hx rfl (hb hby d3_1) rfl ?_
    exact k)
  have pre3 : ∀ t, Steps p.tables e below (s₁.setTop (mkF m 12 #[.val (.ref a3_0), .val (.int p3_1)] [(.int (if p3_1 = (0 : Int32) then (0 : Int32) else (255 : Int32))), (.ref a3_0)])) t → Steps p.tables e below (s₁.setTop (entryFrame m #[(.ref a3_0), (.int p3_1)] 2)) t := fun t k => pre2 t (by
    by_cases hc1 : p3_1 = (0 : Int32)
    · show Steps p.tables e below (s₁.setTop (mkF m 2 #[.val (.ref a3_0), .val (.int p3_1)] [(.int p3_1), (.ref a3_0)])) _
      refine XS.ifYes X0.here hx rfl (pc0 := 2) (pc' := 11) rfl (hb hby d3_2) rfl ((if0 _ _).trans (teq hc1).1) (by decide) (by decide) ?_
      show Steps p.tables e below (s₁.setTop (mkF m 11 #[.val (.ref a3_0), .val (.int p3_1)] [(.ref a3_0)])) _
      refine XS.iconst X0.here hx rfl (hb hby d3_11) ?_
      have q4 : (if p3_1 = (0 : Int32) then (0 : Int32) else (255 : Int32)) = (0 : Int32) := (if_pos hc1)
      exact castTop (g := (mkF m 12 #[.val (.ref a3_0), .val (.int p3_1)] [(.int (0 : Int32)), (.ref a3_0)])) (g' := (mkF m 12 #[.val (.ref a3_0), .val (.int p3_1)] [(.int (if p3_1 = (0 : Int32) then (0 : Int32) else (255 : Int32))), (.ref a3_0)])) (by simp only [q4]) k
    · show Steps p.tables e below (s₁.setTop (mkF m 2 #[.val (.ref a3_0), .val (.int p3_1)] [(.int p3_1), (.ref a3_0)])) _
      refine XS.ifNo X0.here hx rfl (hb hby d3_2) rfl ((if0 _ _).trans (feq hc1).1) ?_
      show Steps p.tables e below (s₁.setTop (mkF m 5 #[.val (.ref a3_0), .val (.int p3_1)] [(.ref a3_0)])) _
      refine XS.sipush X0.here hx rfl (hb hby d3_5) ?_
      show Steps p.tables e below (s₁.setTop (mkF m 8 #[.val (.ref a3_0), .val (.int p3_1)] [(.int (255 : Int32)), (.ref a3_0)])) _
      refine XS.goto X0.here hx rfl (pc0 := 8) (pc' := 12) rfl (hb hby d3_8) (by decide) (by decide) ?_
      have q5 : (if p3_1 = (0 : Int32) then (0 : Int32) else (255 : Int32)) = (255 : Int32) := (if_neg hc1)
      exact castTop (g := (mkF m 12 #[.val (.ref a3_0), .val (.int p3_1)] [(.int (255 : Int32)), (.ref a3_0)])) (g' := (mkF m 12 #[.val (.ref a3_0), .val (.int p3_1)] [(.int (if p3_1 = (0 : Int32) then (0 : Int32) else (255 : Int32))), (.ref a3_0)])) (by simp only [q5]) k)
  obtain ⟨T6, h6, X6, e6, W6, st6⟩ := putF X0 hx hZ hown (host := "") (Or.inl (hVV 19 _ rfl)) Via.refl e0 F_complement_a3_0 E_a3_0 (Or.inl (hVV 20 _ rfl)) (hVV 2 _ rfl) (ty := .int) (by decide) rfl rfl (g := (mkF m 12 #[.val (.ref a3_0), .val (.int p3_1)] [(.int (if p3_1 = (0 : Int32) then (0 : Int32) else (255 : Int32))), (.ref a3_0)])) rfl rfl (hb hby d3_12)
  have pre7 : ∀ t, Steps p.tables e below (T6.setTop (mkF m 15 #[.val (.ref a3_0), .val (.int p3_1)] [])) t → Steps p.tables e below (s₁.setTop (entryFrame m #[(.ref a3_0), (.int p3_1)] 2)) t := fun t k => pre3 t (by
    show Steps p.tables e below (s₁.setTop (mkF m 12 #[.val (.ref a3_0), .val (.int p3_1)] [(.int (if p3_1 = (0 : Int32) then (0 : Int32) else (255 : Int32))), (.ref a3_0)])) _
    refine st6 _ ?_
    exact k)
  have f8 := E_a3_0.wr W6
  have f9 := F_bytes_a3_0.other W6 (Or.inr (slot_ne (Or.inr (hVV 11 _ rfl)) (Or.inl (hVV 20 _ rfl)) (by decide) (t := (.array .byte)) (t' := .int) (by decide) (by decide)))
  have f10 := F_position_a3_0.other W6 (Or.inr (slot_ne (Or.inl (hVV 13 _ rfl)) (Or.inl (hVV 20 _ rfl)) (by decide) (t := .int) (t' := .int) (by decide) (by decide)))
  have z11 := Nat.le_trans Z0 (Keep.of_wr W6).1
  have k12 := (Keep.refl h0 [a3_0]).wr W6 (Or.inl (List.mem_of_getElem? (i := 0) rfl))
  have f13 := F_complement_a3_0.same W6
  have N14 := Fr.snoc X6 N0 g_a3_0
  obtain ⟨fs, hr, hrun, hended, hW, hsame⟩ := X6.leave (v := some (.ref a3_0)) (fun h => by rw [Bd.returns] at h; cases h)
  refine ⟨_, _, pre7 _ ?_, hrun, hended, _, _, rfl, ?_, ⟨_, rfl⟩, hW, hsame.mono (by decide) (by decide)⟩
  · show Steps p.tables e below (T6.setTop (mkF m 15 #[.val (.ref a3_0), .val (.int p3_1)] [])) _
    refine XS.aloadN X6.here hx rfl (hb hby d3_15) rfl rfl ?_
    show Steps p.tables e below (T6.setTop (mkF m 16 #[.val (.ref a3_0), .val (.int p3_1)] [(.ref a3_0)])) _
    jvm_step X6.here [X6.here.top, hx, (hb hby d3_16), X6.method', Bd.returns, Value.isRef, FieldType.isReference]
    first | (intro acts; rw [hr _ acts rfl rfl rfl]) | rw [hr _ _ rfl rfl rfl]
    exact Steps.refl _
  · show Q3 Z a3_0 p3_1 w3_bytes_a3_0 w3_position_a3_0 w3_complement_a3_0 h0 n0 _ T6.heap _
    rw [e6]
    exact ⟨rfl, N14, k12, f8, f9, f10, f13⟩
theorem d4_0 : decode prog_9_method_8_code 0 = .ok (.aload_n 0, 1) := by decide +kernel
theorem d4_1 : decode prog_9_method_8_code 1 = .ok (.getfield 22, 3) := by decide +kernel
theorem d4_4 : decode prog_9_method_8_code 4 = .ok (.ireturn, 1) := by decide +kernel
theorem pn_4 : plainName "com/example/libmosaic/libmosaic/encoding/ByteReader" = true := by first | (simp [plainName, overriddenIn]; done) | decide +kernel
theorem ef_4 (m : MethodId) (x0 : Addr) : entryFrame m #[(.ref x0)] 1 = mkF m 0 #[.val (.ref x0)] [] := by first | (simp [entryFrame, mkF, argsToLocals, Value.category]; done) | rfl
def Q4 (Z : State) (a4_0 : Addr) (w4_position_a4_0 : Int32) (h0 : Heap) (n0 : Nat) (v : Option Value) (h : Heap) (L : List Loc) : Prop := v = some (.int w4_position_a4_0) ∧ Fr n0 L ∧ h = h0
set_option maxRecDepth 65536 in
set_option maxHeartbeats 40000000 in
theorem rm4 (l : Launch) (Z : State) (a0 : Array Value) (hw : ∀ d ∈ tables_1, d.before a0 Z = true) (ws : List Jvm.Cond) (a4_0 : Addr) (w4_position_a4_0 : Int32) (h0 : Heap) (n0 : Nat) (Z0 : n0 ≤ h0.size) (F_position_a4_0 : Fld Z h0 a4_0 "com/example/libmosaic/libmosaic/encoding/ByteReader" "position" "I" (.int w4_position_a4_0)) :
    MetFree l (⟨"com/example/libmosaic/libmosaic/encoding/ByteReader", "position", "()I"⟩ : MethodName) (head1 (Jvm.Cond.code (⟨"com/example/libmosaic/libmosaic/encoding/ByteReader", "position", "()I"⟩ : MethodName) prog_9_method_8_code 1 (some .int) :: ws) ({ frames := 0, cells := 0, slots := 0, locals := 0 } : Room)) (fun a U => a = #[(.ref a4_0)] ∧ Z.Warmed39 U.vm ∧ U.heap = h0) (fun _ _ _ _ _ => True) (fun _ U o U' => ∃ v L, o = .returned v ∧ Q4 Z a4_0 w4_position_a4_0 h0 n0 v U'.heap L ∧ FrameEnd U o U' L ({ frames := 0, cells := 0, slots := 0, locals := 0 } : Room).cells ({ frames := 0, cells := 0, slots := 0, locals := 0 } : Room).slots) := by
  refine MetFree.of_bodySF (plainFor_of_name pn_4) hisR ?_
  intro p e s m args below meth c s₁ Bd hml0 hP hK
  obtain ⟨rfl, hZ, hh⟩ := hP
  have hVV : ∀ (i : Nat) (d : Jvm.Cond), tables_1[i]? = some d → d.before a0 Z = true := fun i d h => hw d (List.mem_of_getElem? h)
  have hx := Bd.exec
  have hby := Bd.bytes
  have hml : c.maxLocals = 1 := hml0
  have hown : s.vm.findClass "com/example/libmosaic/libmosaic/encoding/ByteReader" = some m.cls := findClass_of_methodNamed Bd.named
  have hnm := (name_of_methodNamed Bd.named Bd.method).1
  have X0 : Stand p l e ({ frames := 0, cells := 0, slots := 0, locals := 0 } : Room) s m #[(.ref a4_0)] below meth c s₁ [] 0 0 := Stand.of_body Bd
  have e0 : s₁.heap = h0 := by rw [← hh, Bd.state]; rfl
  have N0 := Fr.nil n0
  have pre0 : ∀ t, Steps p.tables e below (s₁.setTop (mkF m 0 #[.val (.ref a4_0)] [])) t → Steps p.tables e below (s₁.setTop (entryFrame m #[(.ref a4_0)] 1)) t := fun t k => castTop (ef_4 m a4_0) k
  obtain ⟨T1, X1, e1, st1⟩ := getF X0 hx hZ hown (host := "") (Or.inl (hVV 12 _ rfl)) Via.refl e0 F_position_a4_0 (g := (mkF m 1 #[.val (.ref a4_0)] [(.ref a4_0)])) rfl rfl (hb hby d4_1)
  have pre2 : ∀ t, Steps p.tables e below (T1.setTop (mkF m 4 #[.val (.ref a4_0)] [(.int w4_position_a4_0)])) t → Steps p.tables e below (s₁.setTop (entryFrame m #[(.ref a4_0)] 1)) t := fun t k => pre0 t (by
    show Steps p.tables e below (s₁.setTop (mkF m 0 #[.val (.ref a4_0)] [])) _
    refine XS.aloadN X0.here hx rfl (hb hby d4_0) rfl rfl ?_
    show Steps p.tables e below (s₁.setTop (mkF m 1 #[.val (.ref a4_0)] [(.ref a4_0)])) _
    refine st1 _ ?_
    exact k)
  obtain ⟨fs, hr, hrun, hended, hW, hsame⟩ := X1.leave (v := some (.int w4_position_a4_0)) (fun h => by rw [Bd.returns] at h; cases h)
  refine ⟨_, _, pre2 _ ?_, hrun, hended, _, _, rfl, ?_, ⟨_, rfl⟩, hW, hsame.mono (by decide) (by decide)⟩
  · show Steps p.tables e below (T1.setTop (mkF m 4 #[.val (.ref a4_0)] [(.int w4_position_a4_0)])) _
    exact retI X1 hx Bd.returns (hb hby d4_4) hr
  · show Q4 Z a4_0 w4_position_a4_0 h0 n0 _ T1.heap _
    rw [e1]
    exact ⟨rfl, N0, rfl⟩
theorem d7_0 : decode method_2_code 0 = .ok (.iload_n 0, 1) := by decide +kernel
theorem d7_1 : decode method_2_code 1 = .ok (.sipush 255, 3) := by decide +kernel
theorem d7_4 : decode method_2_code 4 = .ok (.iand, 1) := by decide +kernel
theorem d7_5 : decode method_2_code 5 = .ok (.istore_n 2, 1) := by decide +kernel
theorem d7_6 : decode method_2_code 6 = .ok (.iload_n 1, 1) := by decide +kernel
theorem d7_7 : decode method_2_code 7 = .ok (.ifCond .eq 9, 3) := by decide +kernel
theorem d7_10 : decode method_2_code 10 = .ok (.sipush 255, 3) := by decide +kernel
theorem d7_13 : decode method_2_code 13 = .ok (.iload_n 2, 1) := by decide +kernel
theorem d7_14 : decode method_2_code 14 = .ok (.isub, 1) := by decide +kernel
theorem d7_15 : decode method_2_code 15 = .ok (.ireturn, 1) := by decide +kernel
theorem d7_16 : decode method_2_code 16 = .ok (.iload_n 2, 1) := by decide +kernel
theorem d7_17 : decode method_2_code 17 = .ok (.ireturn, 1) := by decide +kernel
theorem pn_7 : plainName "com/example/libmosaic/libmosaic/encoding/ByteReaderComplementPinLaw" = true := by first | (simp [plainName, overriddenIn]; done) | decide +kernel
theorem ef_7 (m : MethodId) (x0 : Int32) (x1 : Int32) : entryFrame m #[(.int x0), (.int x1)] 3 = mkF m 0 #[.val (.int x0), .val (.int x1), .unset] [] := by first | (simp [entryFrame, mkF, argsToLocals, Value.category]; done) | rfl
def Q7 (Z : State) (p7_0 : Int32) (p7_1 : Int32) (h0 : Heap) (n0 : Nat) (v : Option Value) (h : Heap) (L : List Loc) : Prop := v = some (.int (if p7_1 = (0 : Int32) then (p7_0 &&& (255 : Int32)) else ((255 : Int32) - (p7_0 &&& (255 : Int32))))) ∧ Fr n0 L ∧ h = h0
set_option maxRecDepth 65536 in
set_option maxHeartbeats 40000000 in
theorem rm7 (l : Launch) (Z : State) (a0 : Array Value) (hw : ∀ d ∈ tables_1, d.before a0 Z = true) (ws : List Jvm.Cond) (p7_0 : Int32) (p7_1 : Int32) (h0 : Heap) (n0 : Nat) (Z0 : n0 ≤ h0.size) :
    MetFree l (⟨"com/example/libmosaic/libmosaic/encoding/ByteReaderComplementPinLaw", "expect", "(IZ)I"⟩ : MethodName) (head1 (Jvm.Cond.code (⟨"com/example/libmosaic/libmosaic/encoding/ByteReaderComplementPinLaw", "expect", "(IZ)I"⟩ : MethodName) method_2_code 3 (some .int) :: ws) ({ frames := 0, cells := 0, slots := 0, locals := 0 } : Room)) (fun a U => a = #[(.int p7_0), (.int p7_1)] ∧ Z.Warmed39 U.vm ∧ U.heap = h0) (fun _ _ _ _ _ => True) (fun _ U o U' => ∃ v L, o = .returned v ∧ Q7 Z p7_0 p7_1 h0 n0 v U'.heap L ∧ FrameEnd U o U' L ({ frames := 0, cells := 0, slots := 0, locals := 0 } : Room).cells ({ frames := 0, cells := 0, slots := 0, locals := 0 } : Room).slots) := by
  refine MetFree.of_bodySF (plainFor_of_name pn_7) hisR ?_
  intro p e s m args below meth c s₁ Bd hml0 hP hK
  obtain ⟨rfl, hZ, hh⟩ := hP
  have hVV : ∀ (i : Nat) (d : Jvm.Cond), tables_1[i]? = some d → d.before a0 Z = true := fun i d h => hw d (List.mem_of_getElem? h)
  have hx := Bd.exec
  have hby := Bd.bytes
  have hml : c.maxLocals = 3 := hml0
  have hown : s.vm.findClass "com/example/libmosaic/libmosaic/encoding/ByteReaderComplementPinLaw" = some m.cls := findClass_of_methodNamed Bd.named
  have hnm := (name_of_methodNamed Bd.named Bd.method).1
  have X0 : Stand p l e ({ frames := 0, cells := 0, slots := 0, locals := 0 } : Room) s m #[(.int p7_0), (.int p7_1)] below meth c s₁ [] 0 0 := Stand.of_body Bd
  have e0 : s₁.heap = h0 := by rw [← hh, Bd.state]; rfl
  have N0 := Fr.nil n0
  have pre0 : ∀ t, Steps p.tables e below (s₁.setTop (mkF m 0 #[.val (.int p7_0), .val (.int p7_1), .unset] [])) t → Steps p.tables e below (s₁.setTop (entryFrame m #[(.int p7_0), (.int p7_1)] 3)) t := fun t k => castTop (ef_7 m p7_0 p7_1) k
  by_cases hc1 : p7_1 = (0 : Int32)
  · obtain ⟨fs, hr, hrun, hended, hW, hsame⟩ := X0.leave (v := some (.int (p7_0 &&& (255 : Int32)))) (fun h => by rw [Bd.returns] at h; cases h)
    refine ⟨_, _, pre0 _ ?_, hrun, hended, _, _, rfl, ?_, ⟨_, rfl⟩, hW, hsame.mono (by decide) (by decide)⟩
    · show Steps p.tables e below (s₁.setTop (mkF m 0 #[.val (.int p7_0), .val (.int p7_1), .unset] [])) _
      refine XS.iloadN X0.here hx rfl (hb hby d7_0) rfl ?_
      show Steps p.tables e below (s₁.setTop (mkF m 1 #[.val (.int p7_0), .val (.int p7_1), .unset] [(.int p7_0)])) _
      refine XS.sipush X0.here hx rfl (hb hby d7_1) ?_
      show Steps p.tables e below (s₁.setTop (mkF m 4 #[.val (.int p7_0), .val (.int p7_1), .unset] [(.int (255 : Int32)), (.int p7_0)])) _
      refine XS.iand X0.here hx rfl (hb hby d7_4) rfl ?_
      show Steps p.tables e below (s₁.setTop (mkF m 5 #[.val (.int p7_0), .val (.int p7_1), .unset] [(.int (p7_0 &&& (255 : Int32)))])) _
      refine XS.istoreN X0.here hx rfl (hb hby d7_5) rfl (l' := #[.val (.int p7_0), .val (.int p7_1), .val (.int (p7_0 &&& (255 : Int32)))]) rfl ?_
      show Steps p.tables e below (s₁.setTop (mkF m 6 #[.val (.int p7_0), .val (.int p7_1), .val (.int (p7_0 &&& (255 : Int32)))] [])) _
      refine XS.iloadN X0.here hx rfl (hb hby d7_6) rfl ?_
      show Steps p.tables e below (s₁.setTop (mkF m 7 #[.val (.int p7_0), .val (.int p7_1), .val (.int (p7_0 &&& (255 : Int32)))] [(.int p7_1)])) _
      refine XS.ifYes X0.here hx rfl (pc0 := 7) (pc' := 16) rfl (hb hby d7_7) rfl ((if0 _ _).trans (teq hc1).1) (by decide) (by decide) ?_
      show Steps p.tables e below (s₁.setTop (mkF m 16 #[.val (.int p7_0), .val (.int p7_1), .val (.int (p7_0 &&& (255 : Int32)))] [])) _
      refine XS.iloadN X0.here hx rfl (hb hby d7_16) rfl ?_
      show Steps p.tables e below (s₁.setTop (mkF m 17 #[.val (.int p7_0), .val (.int p7_1), .val (.int (p7_0 &&& (255 : Int32)))] [(.int (p7_0 &&& (255 : Int32)))])) _
      exact retI X0 hx Bd.returns (hb hby d7_17) hr
    · show Q7 Z p7_0 p7_1 h0 n0 _ s₁.heap _
      rw [e0]
      exact ⟨(congrArg (fun z => some (Value.int z)) ((if_pos hc1) : (if p7_1 = (0 : Int32) then (p7_0 &&& (255 : Int32)) else ((255 : Int32) - (p7_0 &&& (255 : Int32)))) = (p7_0 &&& (255 : Int32))).symm), N0, rfl⟩
  · obtain ⟨fs, hr, hrun, hended, hW, hsame⟩ := X0.leave (v := some (.int ((255 : Int32) - (p7_0 &&& (255 : Int32))))) (fun h => by rw [Bd.returns] at h; cases h)
    refine ⟨_, _, pre0 _ ?_, hrun, hended, _, _, rfl, ?_, ⟨_, rfl⟩, hW, hsame.mono (by decide) (by decide)⟩
    · show Steps p.tables e below (s₁.setTop (mkF m 0 #[.val (.int p7_0), .val (.int p7_1), .unset] [])) _
      refine XS.iloadN X0.here hx rfl (hb hby d7_0) rfl ?_
      show Steps p.tables e below (s₁.setTop (mkF m 1 #[.val (.int p7_0), .val (.int p7_1), .unset] [(.int p7_0)])) _
      refine XS.sipush X0.here hx rfl (hb hby d7_1) ?_
      show Steps p.tables e below (s₁.setTop (mkF m 4 #[.val (.int p7_0), .val (.int p7_1), .unset] [(.int (255 : Int32)), (.int p7_0)])) _
      refine XS.iand X0.here hx rfl (hb hby d7_4) rfl ?_
      show Steps p.tables e below (s₁.setTop (mkF m 5 #[.val (.int p7_0), .val (.int p7_1), .unset] [(.int (p7_0 &&& (255 : Int32)))])) _
      refine XS.istoreN X0.here hx rfl (hb hby d7_5) rfl (l' := #[.val (.int p7_0), .val (.int p7_1), .val (.int (p7_0 &&& (255 : Int32)))]) rfl ?_
      show Steps p.tables e below (s₁.setTop (mkF m 6 #[.val (.int p7_0), .val (.int p7_1), .val (.int (p7_0 &&& (255 : Int32)))] [])) _
      refine XS.iloadN X0.here hx rfl (hb hby d7_6) rfl ?_
      show Steps p.tables e below (s₁.setTop (mkF m 7 #[.val (.int p7_0), .val (.int p7_1), .val (.int (p7_0 &&& (255 : Int32)))] [(.int p7_1)])) _
      refine XS.ifNo X0.here hx rfl (hb hby d7_7) rfl ((if0 _ _).trans (feq hc1).1) ?_
      show Steps p.tables e below (s₁.setTop (mkF m 10 #[.val (.int p7_0), .val (.int p7_1), .val (.int (p7_0 &&& (255 : Int32)))] [])) _
      refine XS.sipush X0.here hx rfl (hb hby d7_10) ?_
      show Steps p.tables e below (s₁.setTop (mkF m 13 #[.val (.int p7_0), .val (.int p7_1), .val (.int (p7_0 &&& (255 : Int32)))] [(.int (255 : Int32))])) _
      refine XS.iloadN X0.here hx rfl (hb hby d7_13) rfl ?_
      show Steps p.tables e below (s₁.setTop (mkF m 14 #[.val (.int p7_0), .val (.int p7_1), .val (.int (p7_0 &&& (255 : Int32)))] [(.int (p7_0 &&& (255 : Int32))), (.int (255 : Int32))])) _
      refine XS.isub X0.here hx rfl (hb hby d7_14) rfl ?_
      show Steps p.tables e below (s₁.setTop (mkF m 15 #[.val (.int p7_0), .val (.int p7_1), .val (.int (p7_0 &&& (255 : Int32)))] [(.int ((255 : Int32) - (p7_0 &&& (255 : Int32))))])) _
      exact retI X0 hx Bd.returns (hb hby d7_15) hr
    · show Q7 Z p7_0 p7_1 h0 n0 _ s₁.heap _
      rw [e0]
      exact ⟨(congrArg (fun z => some (Value.int z)) ((if_neg hc1) : (if p7_1 = (0 : Int32) then (p7_0 &&& (255 : Int32)) else ((255 : Int32) - (p7_0 &&& (255 : Int32)))) = ((255 : Int32) - (p7_0 &&& (255 : Int32)))).symm), N0, rfl⟩
theorem d6_0 : decode prog_9_method_10_code 0 = .ok (.iload_n 1, 1) := by decide +kernel
theorem d6_1 : decode prog_9_method_10_code 1 = .ok (.ifCond .lt 17, 3) := by decide +kernel
theorem d6_4 : decode prog_9_method_10_code 4 = .ok (.aload_n 0, 1) := by decide +kernel
theorem d6_5 : decode prog_9_method_10_code 5 = .ok (.getfield 16, 3) := by decide +kernel
theorem d6_8 : decode prog_9_method_10_code 8 = .ok (.arraylength, 1) := by decide +kernel
theorem d6_9 : decode prog_9_method_10_code 9 = .ok (.aload_n 0, 1) := by decide +kernel
theorem d6_10 : decode prog_9_method_10_code 10 = .ok (.getfield 22, 3) := by decide +kernel
theorem d6_13 : decode prog_9_method_10_code 13 = .ok (.isub, 1) := by decide +kernel
theorem d6_14 : decode prog_9_method_10_code 14 = .ok (.iload_n 1, 1) := by decide +kernel
theorem d6_15 : decode prog_9_method_10_code 15 = .ok (.if_icmp .ge 48, 3) := by decide +kernel
theorem d6_63 : decode prog_9_method_10_code 63 = .ok (.return_, 1) := by decide +kernel
theorem pn_6 : plainName "com/example/libmosaic/libmosaic/encoding/ByteReader" = true := by first | (simp [plainName, overriddenIn]; done) | decide +kernel
theorem ef_6_rm6_0 (m : MethodId) (x0 : Addr) : entryFrame m #[(.ref x0), (.int (1 : Int32))] 2 = mkF m 0 #[.val (.ref x0), .val (.int (1 : Int32))] [] := by first | (simp [entryFrame, mkF, argsToLocals, Value.category]; done) | rfl
def Q6_0 (Z : State) (a6_0 : Addr) (ar : Addr) (ka : ClassId) (e0_ : Int32) (e1_ : Int32) (e2_ : Int32) (h0 : Heap) (n0 : Nat) (v : Option Value) (h : Heap) (L : List Loc) : Prop := v = none ∧ Fr n0 L ∧ h = h0
set_option maxRecDepth 65536 in
set_option maxHeartbeats 40000000 in
theorem rm6_0 (l : Launch) (Z : State) (a0 : Array Value) (hw : ∀ d ∈ tables_1, d.before a0 Z = true) (ws : List Jvm.Cond) (a6_0 : Addr) (ar : Addr) (ka : ClassId) (e0_ : Int32) (e1_ : Int32) (e2_ : Int32) (h0 : Heap) (n0 : Nat) (Z0 : n0 ≤ h0.size) (FB : Fld Z h0 a6_0 "com/example/libmosaic/libmosaic/encoding/ByteReader" "bytes" "[B" (.ref ar)) (FP : Fld Z h0 a6_0 "com/example/libmosaic/libmosaic/encoding/ByteReader" "position" "I" (.int (0 : Int32))) (VA : Arv Z h0 ar ka .byte (3 : Int32) [(.int e0_), (.int e1_), (.int e2_)] (.int (0 : Int32))) (ne_ar_a6_0 : ar ≠ a6_0) :
    MetFree l (⟨"com/example/libmosaic/libmosaic/encoding/ByteReader", "require", "(I)V"⟩ : MethodName) (head1 (Jvm.Cond.code (⟨"com/example/libmosaic/libmosaic/encoding/ByteReader", "require", "(I)V"⟩ : MethodName) prog_9_method_10_code 2 none :: ws) ({ frames := 0, cells := 0, slots := 0, locals := 0 } : Room)) (fun a U => a = #[(.ref a6_0), (.int (1 : Int32))] ∧ Z.Warmed39 U.vm ∧ U.heap = h0) (fun _ _ _ _ _ => True) (fun _ U o U' => ∃ v L, o = .returned v ∧ Q6_0 Z a6_0 ar ka e0_ e1_ e2_ h0 n0 v U'.heap L ∧ FrameEnd U o U' L ({ frames := 0, cells := 0, slots := 0, locals := 0 } : Room).cells ({ frames := 0, cells := 0, slots := 0, locals := 0 } : Room).slots) := by
  refine MetFree.of_bodySF (plainFor_of_name pn_6) hisR ?_
  intro p e s m args below meth c s₁ Bd hml0 hP hK
  obtain ⟨rfl, hZ, hh⟩ := hP
  have hVV : ∀ (i : Nat) (d : Jvm.Cond), tables_1[i]? = some d → d.before a0 Z = true := fun i d h => hw d (List.mem_of_getElem? h)
  have hx := Bd.exec
  have hby := Bd.bytes
  have hml : c.maxLocals = 2 := hml0
  have hown : s.vm.findClass "com/example/libmosaic/libmosaic/encoding/ByteReader" = some m.cls := findClass_of_methodNamed Bd.named
  have hnm := (name_of_methodNamed Bd.named Bd.method).1
  have X0 : Stand p l e ({ frames := 0, cells := 0, slots := 0, locals := 0 } : Room) s m #[(.ref a6_0), (.int (1 : Int32))] below meth c s₁ [] 0 0 := Stand.of_body Bd
  have e0 : s₁.heap = h0 := by rw [← hh, Bd.state]; rfl
  have N0 := Fr.nil n0
  have pre0 : ∀ t, Steps p.tables e below (s₁.setTop (mkF m 0 #[.val (.ref a6_0), .val (.int (1 : Int32))] [])) t → Steps p.tables e below (s₁.setTop (entryFrame m #[(.ref a6_0), (.int (1 : Int32))] 2)) t := fun t k => castTop (ef_6_rm6_0 m a6_0) k
  obtain ⟨T1, X1, e1, st1⟩ := getF X0 hx hZ hown (host := "") (Or.inl (hVV 10 _ rfl)) Via.refl e0 FB (g := (mkF m 5 #[.val (.ref a6_0), .val (.int (1 : Int32))] [(.ref a6_0)])) rfl rfl (hb hby d6_5)
  have pre2 : ∀ t, Steps p.tables e below (T1.setTop (mkF m 8 #[.val (.ref a6_0), .val (.int (1 : Int32))] [(.ref ar)])) t → Steps p.tables e below (s₁.setTop (entryFrame m #[(.ref a6_0), (.int (1 : Int32))] 2)) t := fun t k => pre0 t (by
    show Steps p.tables e below (s₁.setTop (mkF m 0 #[.val (.ref a6_0), .val (.int (1 : Int32))] [])) _
    refine XS.iloadN X0.here hx rfl (hb hby d6_0) rfl ?_
    show Steps p.tables e below (s₁.setTop (mkF m 1 #[.val (.ref a6_0), .val (.int (1 : Int32))] [(.int (1 : Int32))])) _
    refine XS.ifNo X0.here hx rfl (hb hby d6_1) rfl ((if0 _ _).trans (flt (by decide : ¬ ((1 : Int32) < (0 : Int32)))).1) ?_
    show Steps p.tables e below (s₁.setTop (mkF m 4 #[.val (.ref a6_0), .val (.int (1 : Int32))] [])) _
    refine XS.aloadN X0.here hx rfl (hb hby d6_4) rfl rfl ?_
    show Steps p.tables e below (s₁.setTop (mkF m 5 #[.val (.ref a6_0), .val (.int (1 : Int32))] [(.ref a6_0)])) _
    refine st1 _ ?_
    exact k)
  obtain ⟨cl3, Ar3, q3, S3, N3, H3, G3⟩ := id VA
  obtain ⟨T4, X4, e4, st4⟩ := getF X1 hx hZ hown (host := "") (Or.inl (hVV 12 _ rfl)) Via.refl e1 FP (g := (mkF m 10 #[.val (.ref a6_0), .val (.int (1 : Int32))] [(.ref a6_0), (.int (3 : Int32))])) rfl rfl (hb hby d6_10)
  have pre5 : ∀ t, Steps p.tables e below (T4.setTop (mkF m 13 #[.val (.ref a6_0), .val (.int (1 : Int32))] [(.int (0 : Int32)), (.int (3 : Int32))])) t → Steps p.tables e below (s₁.setTop (entryFrame m #[(.ref a6_0), (.int (1 : Int32))] 2)) t := fun t k => pre2 t (by
    show Steps p.tables e below (T1.setTop (mkF m 8 #[.val (.ref a6_0), .val (.int (1 : Int32))] [(.ref ar)])) _
    refine X1.arraylength hx (by rw [e1]; exact Ar3.1) (State.isArrayOf_alike hZ.alike Ar3.2.1) (g := (mkF m 8 #[.val (.ref a6_0), .val (.int (1 : Int32))] [(.ref ar)])) rfl rfl (hb hby d6_8) _ ?_
    rw [len_of S3 N3]
    show Steps p.tables e below (T1.setTop (mkF m 9 #[.val (.ref a6_0), .val (.int (1 : Int32))] [(.int (3 : Int32))])) _
    refine XS.aloadN X1.here hx rfl (hb hby d6_9) rfl rfl ?_
    show Steps p.tables e below (T1.setTop (mkF m 10 #[.val (.ref a6_0), .val (.int (1 : Int32))] [(.ref a6_0), (.int (3 : Int32))])) _
    refine st4 _ ?_
    exact k)
  have hd6 : ¬ (((3 : Int32) - (0 : Int32)) < (1 : Int32)) := by
    decide
  obtain ⟨fs, hr, hrun, hended, hW, hsame⟩ := X4.leave (v := none) (fun _ => rfl)
  refine ⟨_, _, pre5 _ ?_, hrun, hended, _, _, rfl, ?_, ⟨_, rfl⟩, hW, hsame.mono (by decide) (by decide)⟩
  · show Steps p.tables e below (T4.setTop (mkF m 13 #[.val (.ref a6_0), .val (.int (1 : Int32))] [(.int (0 : Int32)), (.int (3 : Int32))])) _
    refine XS.isub X4.here hx rfl (hb hby d6_13) rfl ?_
    show Steps p.tables e below (T4.setTop (mkF m 14 #[.val (.ref a6_0), .val (.int (1 : Int32))] [(.int ((3 : Int32) - (0 : Int32)))])) _
    refine XS.iloadN X4.here hx rfl (hb hby d6_14) rfl ?_
    show Steps p.tables e below (T4.setTop (mkF m 15 #[.val (.ref a6_0), .val (.int (1 : Int32))] [(.int (1 : Int32)), (.int ((3 : Int32) - (0 : Int32)))])) _
    refine XS.icmpYes X4.here hx rfl (pc0 := 15) (pc' := 63) rfl (hb hby d6_15) rfl (flt hd6).2.1 (by decide) (by decide) ?_
    show Steps p.tables e below (T4.setTop (mkF m 63 #[.val (.ref a6_0), .val (.int (1 : Int32))] [])) _
    exact X4.returnOut hx Bd.returns (hb hby d6_63) hr
  · show Q6_0 Z a6_0 ar ka e0_ e1_ e2_ h0 n0 _ T4.heap _
    rw [e4]
    exact ⟨rfl, N0, rfl⟩
theorem pd_0 : parseMethodDescriptor "(I)V" = some ⟨[.int], none⟩ := by decide +kernel
theorem d5_0 : decode prog_9_method_2_code 0 = .ok (.aload_n 0, 1) := by decide +kernel
theorem d5_1 : decode prog_9_method_2_code 1 = .ok (.iconst 1, 1) := by decide +kernel
theorem d5_2 : decode prog_9_method_2_code 2 = .ok (.invokevirtual 26, 3) := by decide +kernel
theorem d5_5 : decode prog_9_method_2_code 5 = .ok (.aload_n 0, 1) := by decide +kernel
theorem d5_6 : decode prog_9_method_2_code 6 = .ok (.getfield 16, 3) := by decide +kernel
theorem d5_9 : decode prog_9_method_2_code 9 = .ok (.aload_n 0, 1) := by decide +kernel
theorem d5_10 : decode prog_9_method_2_code 10 = .ok (.dup, 1) := by decide +kernel
theorem d5_11 : decode prog_9_method_2_code 11 = .ok (.getfield 22, 3) := by decide +kernel
theorem d5_14 : decode prog_9_method_2_code 14 = .ok (.dup_x1, 1) := by decide +kernel
theorem d5_15 : decode prog_9_method_2_code 15 = .ok (.iconst 1, 1) := by decide +kernel
theorem d5_16 : decode prog_9_method_2_code 16 = .ok (.iadd, 1) := by decide +kernel
theorem d5_17 : decode prog_9_method_2_code 17 = .ok (.putfield 22, 3) := by decide +kernel
theorem d5_20 : decode prog_9_method_2_code 20 = .ok (.baload, 1) := by decide +kernel
theorem d5_21 : decode prog_9_method_2_code 21 = .ok (.sipush 255, 3) := by decide +kernel
theorem d5_24 : decode prog_9_method_2_code 24 = .ok (.iand, 1) := by decide +kernel
theorem d5_25 : decode prog_9_method_2_code 25 = .ok (.aload_n 0, 1) := by decide +kernel
theorem d5_26 : decode prog_9_method_2_code 26 = .ok (.getfield 30, 3) := by decide +kernel
theorem d5_29 : decode prog_9_method_2_code 29 = .ok (.ixor, 1) := by decide +kernel
theorem d5_30 : decode prog_9_method_2_code 30 = .ok (.ireturn, 1) := by decide +kernel
theorem pn_5 : plainName "com/example/libmosaic/libmosaic/encoding/ByteReader" = true := by first | (simp [plainName, overriddenIn]; done) | decide +kernel
theorem ef_5 (m : MethodId) (x0 : Addr) : entryFrame m #[(.ref x0)] 1 = mkF m 0 #[.val (.ref x0)] [] := by first | (simp [entryFrame, mkF, argsToLocals, Value.category]; done) | rfl
def Q5_0 (Z : State) (a5_0 : Addr) (ar : Addr) (ka : ClassId) (e0_ : Int32) (e1_ : Int32) (e2_ : Int32) (w5_complement_a5_0 : Int32) (h0 : Heap) (n0 : Nat) (v : Option Value) (h : Heap) (L : List Loc) : Prop := v = some (.int ((e0_ &&& (255 : Int32)) ^^^ w5_complement_a5_0)) ∧ Fr n0 L ∧ Keep h0 h [a5_0] ∧ Exa Z h a5_0 "com/example/libmosaic/libmosaic/encoding/ByteReader" ∧ Fld Z h a5_0 "com/example/libmosaic/libmosaic/encoding/ByteReader" "bytes" "[B" (.ref ar) ∧ Fld Z h a5_0 "com/example/libmosaic/libmosaic/encoding/ByteReader" "complement" "I" (.int w5_complement_a5_0) ∧ Fld Z h a5_0 "com/example/libmosaic/libmosaic/encoding/ByteReader" "position" "I" (.int (1 : Int32))
set_option maxRecDepth 65536 in
set_option maxHeartbeats 40000000 in
theorem rm5_0 (l : Launch) (Z : State) (a0 : Array Value) (hw : ∀ d ∈ tables_1, d.before a0 Z = true) (ws : List Jvm.Cond) (a5_0 : Addr) (ar : Addr) (ka : ClassId) (e0_ : Int32) (e1_ : Int32) (e2_ : Int32) (w5_complement_a5_0 : Int32) (h0 : Heap) (n0 : Nat) (Z0 : n0 ≤ h0.size) (FB : Fld Z h0 a5_0 "com/example/libmosaic/libmosaic/encoding/ByteReader" "bytes" "[B" (.ref ar)) (FP : Fld Z h0 a5_0 "com/example/libmosaic/libmosaic/encoding/ByteReader" "position" "I" (.int (0 : Int32))) (VA : Arv Z h0 ar ka .byte (3 : Int32) [(.int e0_), (.int e1_), (.int e2_)] (.int (0 : Int32))) (ne_ar_a5_0 : ar ≠ a5_0) (E_a5_0 : Exa Z h0 a5_0 "com/example/libmosaic/libmosaic/encoding/ByteReader") (F_complement_a5_0 : Fld Z h0 a5_0 "com/example/libmosaic/libmosaic/encoding/ByteReader" "complement" "I" (.int w5_complement_a5_0)) (g_a5_0 : n0 ≤ a5_0) :
    MetFree l (⟨"com/example/libmosaic/libmosaic/encoding/ByteReader", "read", "()I"⟩ : MethodName) (head1 (Jvm.Cond.code (⟨"com/example/libmosaic/libmosaic/encoding/ByteReader", "read", "()I"⟩ : MethodName) prog_9_method_2_code 1 (some .int) :: ws) ({ frames := 1, cells := 0, slots := 0, locals := 13 } : Room)) (fun a U => a = #[(.ref a5_0)] ∧ Z.Warmed39 U.vm ∧ U.heap = h0) (fun _ _ _ _ _ => True) (fun _ U o U' => ∃ v L, o = .returned v ∧ Q5_0 Z a5_0 ar ka e0_ e1_ e2_ w5_complement_a5_0 h0 n0 v U'.heap L ∧ FrameEnd U o U' L ({ frames := 1, cells := 0, slots := 0, locals := 13 } : Room).cells ({ frames := 1, cells := 0, slots := 0, locals := 13 } : Room).slots) := by
  refine MetFree.of_bodySF (plainFor_of_name pn_5) hisR ?_
  intro p e s m args below meth c s₁ Bd hml0 hP hK
  obtain ⟨rfl, hZ, hh⟩ := hP
  have hVV : ∀ (i : Nat) (d : Jvm.Cond), tables_1[i]? = some d → d.before a0 Z = true := fun i d h => hw d (List.mem_of_getElem? h)
  have hx := Bd.exec
  have hby := Bd.bytes
  have hml : c.maxLocals = 1 := hml0
  have hown : s.vm.findClass "com/example/libmosaic/libmosaic/encoding/ByteReader" = some m.cls := findClass_of_methodNamed Bd.named
  have hnm := (name_of_methodNamed Bd.named Bd.method).1
  have X0 : Stand p l e ({ frames := 1, cells := 0, slots := 0, locals := 13 } : Room) s m #[(.ref a5_0)] below meth c s₁ [] 0 0 := Stand.of_body Bd
  have e0 : s₁.heap = h0 := by rw [← hh, Bd.state]; rfl
  have N0 := Fr.nil n0
  have pre0 : ∀ t, Steps p.tables e below (s₁.setTop (mkF m 0 #[.val (.ref a5_0)] [])) t → Steps p.tables e below (s₁.setTop (entryFrame m #[(.ref a5_0)] 1)) t := fun t k => castTop (ef_5 m a5_0) k
  obtain ⟨cq1, q1, q1'⟩ := E_a5_0.cell
  obtain ⟨_, _, ⟨T1, L1, k1, n1⟩, -, X1, ⟨Lc1, hQ1, l1, y1, z1⟩, st1⟩ := X0.privateBack hx (y := (⟨"com/example/libmosaic/libmosaic/encoding/ByteReader", "require", "(I)V"⟩ : MethodName)) hown (mvT hZ (hVV 31 _ rfl)) (mvT hZ (hVV 32 _ rfl)) (own_sel (z := (⟨"com/example/libmosaic/libmosaic/encoding/ByteReader", "complement", "(Z)Lcom/example/libmosaic/libmosaic/encoding/ByteReader;"⟩ : MethodName)) (mvT hZ (hVV 32 _ rfl)) (mvP hZ (hVV 33 _ rfl)) (mvT hZ (hVV 17 _ rfl)) rfl (by decide)) (Cond.privateMethod_at (mvP hZ (hVV 33 _ rfl) (args := #[]))) (mvT hZ (hVV 34 _ rfl)) (by decide) (backOf (W := 0) (rm6_0 l Z a0 hw [] a5_0 ar ka e0_ e1_ e2_ h0 n0 Z0 FB FP VA ne_ar_a5_0) hZ (hVV 34 _ rfl) (hVV 3 _ rfl) (by decide) (by decide)) (g := (mkF m 2 #[.val (.ref a5_0)] [(.int (1 : Int32)), (.ref a5_0)])) rfl (by rw [hml]; rfl) (Steps.refl _) (a := a5_0) (by rw [e0]; exact q1) q1' (argsL := [(.int (1 : Int32))]) (rest := []) (lenOf pd_0 rfl) rfl (by show 2 * 0 + _ ≤ _; exact Nat.le_of_eq rfl) (hb hby d5_2) (fun _ _ => ⟨rfl, e0, (by decide : 0 + 0 ≤ _), (by decide : 0 + 0 ≤ _)⟩)
  dsimp only [Pt.U, Pt.locs, Pt.cells, Pt.slots] at X1 l1 y1 z1 st1 hQ1
  subst l1 y1 z1
  obtain ⟨rfl, N1q, e1⟩ := hQ1
  have N2 := Fr.app N0 N1q
  have pre3 : ∀ t, Steps p.tables e below (T1.setTop (mkF m 5 #[.val (.ref a5_0)] [])) t → Steps p.tables e below (s₁.setTop (entryFrame m #[(.ref a5_0)] 1)) t := fun t k => pre0 t (by
    show Steps p.tables e below (s₁.setTop (mkF m 0 #[.val (.ref a5_0)] [])) _
    refine XS.aloadN X0.here hx rfl (hb hby d5_0) rfl rfl ?_
    show Steps p.tables e below (s₁.setTop (mkF m 1 #[.val (.ref a5_0)] [(.ref a5_0)])) _
    refine XS.iconst X0.here hx rfl (hb hby d5_1) ?_
    show Steps p.tables e below (s₁.setTop (mkF m 2 #[.val (.ref a5_0)] [(.int (1 : Int32)), (.ref a5_0)])) _
    refine st1.trans ?_
    exact k)
  obtain ⟨T4, X4, e4, st4⟩ := getF X1 hx hZ hown (host := "") (Or.inl (hVV 10 _ rfl)) Via.refl e1 FB (g := (mkF m 6 #[.val (.ref a5_0)] [(.ref a5_0)])) rfl rfl (hb hby d5_6)
  have pre5 : ∀ t, Steps p.tables e below (T4.setTop (mkF m 9 #[.val (.ref a5_0)] [(.ref ar)])) t → Steps p.tables e below (s₁.setTop (entryFrame m #[(.ref a5_0)] 1)) t := fun t k => pre3 t (by
    show Steps p.tables e below (T1.setTop (mkF m 5 #[.val (.ref a5_0)] [])) _
    refine XS.aloadN X1.here hx rfl (hb hby d5_5) rfl rfl ?_
    show Steps p.tables e below (T1.setTop (mkF m 6 #[.val (.ref a5_0)] [(.ref a5_0)])) _
    refine st4 _ ?_
    exact k)
  obtain ⟨T6, X6, e6, st6⟩ := getF X4 hx hZ hown (host := "") (Or.inl (hVV 12 _ rfl)) Via.refl e4 FP (g := (mkF m 11 #[.val (.ref a5_0)] [(.ref a5_0), (.ref a5_0), (.ref ar)])) rfl rfl (hb hby d5_11)
  have pre7 : ∀ t, Steps p.tables e below (T6.setTop (mkF m 14 #[.val (.ref a5_0)] [(.int (0 : Int32)), (.ref a5_0), (.ref ar)])) t → Steps p.tables e below (s₁.setTop (entryFrame m #[(.ref a5_0)] 1)) t := fun t k => pre5 t (by
    show Steps p.tables e below (T4.setTop (mkF m 9 #[.val (.ref a5_0)] [(.ref ar)])) _
    refine XS.aloadN X4.here hx rfl (hb hby d5_9) rfl rfl ?_
    show Steps p.tables e below (T4.setTop (mkF m 10 #[.val (.ref a5_0)] [(.ref a5_0), (.ref ar)])) _
    refine XS.dup X4.here hx rfl (hb hby d5_10) rfl rfl ?_
    show Steps p.tables e below (T4.setTop (mkF m 11 #[.val (.ref a5_0)] [(.ref a5_0), (.ref a5_0), (.ref ar)])) _
    refine st6 _ ?_
    exact k)
  obtain ⟨T8, h8, X8, e8, W8, st8⟩ := putF X6 hx hZ hown (host := "") (Or.inl (hVV 12 _ rfl)) Via.refl e6 FP E_a5_0 (Or.inl (hVV 13 _ rfl)) (hVV 2 _ rfl) (ty := .int) (by decide) rfl rfl (g := (mkF m 17 #[.val (.ref a5_0)] [(.int ((0 : Int32) + (1 : Int32))), (.ref a5_0), (.int (0 : Int32)), (.ref ar)])) rfl rfl (hb hby d5_17)
  have pre9 : ∀ t, Steps p.tables e below (T8.setTop (mkF m 20 #[.val (.ref a5_0)] [(.int (0 : Int32)), (.ref ar)])) t → Steps p.tables e below (s₁.setTop (entryFrame m #[(.ref a5_0)] 1)) t := fun t k => pre7 t (by
    show Steps p.tables e below (T6.setTop (mkF m 14 #[.val (.ref a5_0)] [(.int (0 : Int32)), (.ref a5_0), (.ref ar)])) _
    refine XS.dupX1 X6.here hx rfl (hb hby d5_14) rfl rfl rfl ?_
    show Steps p.tables e below (T6.setTop (mkF m 15 #[.val (.ref a5_0)] [(.int (0 : Int32)), (.ref a5_0), (.int (0 : Int32)), (.ref ar)])) _
    refine XS.iconst X6.here hx rfl (hb hby d5_15) ?_
    show Steps p.tables e below (T6.setTop (mkF m 16 #[.val (.ref a5_0)] [(.int (1 : Int32)), (.int (0 : Int32)), (.ref a5_0), (.int (0 : Int32)), (.ref ar)])) _
    refine XS.iadd X6.here hx rfl (hb hby d5_16) rfl ?_
    show Steps p.tables e below (T6.setTop (mkF m 17 #[.val (.ref a5_0)] [(.int ((0 : Int32) + (1 : Int32))), (.ref a5_0), (.int (0 : Int32)), (.ref ar)])) _
    refine st8 _ ?_
    exact k)
  have f10 := VA.other W8 ne_ar_a5_0
  have f11 := FB.other W8 (Or.inr (slot_ne (Or.inr (hVV 11 _ rfl)) (Or.inl (hVV 13 _ rfl)) (by decide) (t := (.array .byte)) (t' := .int) (by decide) (by decide)))
  have f12 := E_a5_0.wr W8
  have f13 := F_complement_a5_0.other W8 (Or.inr (slot_ne (Or.inl (hVV 20 _ rfl)) (Or.inl (hVV 13 _ rfl)) (by decide) (t := .int) (t' := .int) (by decide) (by decide)))
  have z14 := Nat.le_trans Z0 (Keep.of_wr W8).1
  have k15 := (Keep.refl h0 [a5_0]).wr W8 (Or.inl (List.mem_of_getElem? (i := 0) rfl))
  have f16 := FP.same W8
  rw [show ((0 : Int32) + (1 : Int32)) = (1 : Int32) from by decide] at f16
  have N17 := Fr.snoc X8 N2 g_a5_0
  obtain ⟨cl18, Ar18, q18, S18, N18, H18, G18⟩ := id f10
  have hin18 : ¬ ((0 : Int32) < 0 ∨ cl18.slots.size ≤ ((0 : Int32)).toNatClampNeg) := inb_of S18 ⟨by decide, by decide⟩
  have hat18 : cl18.slots[((0 : Int32)).toNatClampNeg]? = some (.int e0_) := Has.at H18 hin18 rfl
  obtain ⟨T19, X19, e19, st19⟩ := getF X8 hx hZ hown (host := "") (Or.inl (hVV 19 _ rfl)) Via.refl e8 f13 (g := (mkF m 26 #[.val (.ref a5_0)] [(.ref a5_0), (.int (e0_ &&& (255 : Int32)))])) rfl rfl (hb hby d5_26)
  have pre20 : ∀ t, Steps p.tables e below (T19.setTop (mkF m 29 #[.val (.ref a5_0)] [(.int w5_complement_a5_0), (.int (e0_ &&& (255 : Int32)))])) t → Steps p.tables e below (s₁.setTop (entryFrame m #[(.ref a5_0)] 1)) t := fun t k => pre9 t (by
    show Steps p.tables e below (T8.setTop (mkF m 20 #[.val (.ref a5_0)] [(.int (0 : Int32)), (.ref ar)])) _
    refine X8.baloadBytes hx (j := (0 : Int32)) (v := (.int e0_)) (by rw [e8]; exact Ar18.1) (State.isArrayOf_alike hZ.alike Ar18.2.1) Ar18.2.2 hin18 hat18 (g := (mkF m 20 #[.val (.ref a5_0)] [(.int (0 : Int32)), (.ref ar)])) rfl rfl (hb hby d5_20) _ ?_
    show Steps p.tables e below (T8.setTop (mkF m 21 #[.val (.ref a5_0)] [(.int e0_)])) _
    refine XS.sipush X8.here hx rfl (hb hby d5_21) ?_
    show Steps p.tables e below (T8.setTop (mkF m 24 #[.val (.ref a5_0)] [(.int (255 : Int32)), (.int e0_)])) _
    refine XS.iand X8.here hx rfl (hb hby d5_24) rfl ?_
    show Steps p.tables e below (T8.setTop (mkF m 25 #[.val (.ref a5_0)] [(.int (e0_ &&& (255 : Int32)))])) _
    refine XS.aloadN X8.here hx rfl (hb hby d5_25) rfl rfl ?_
    show Steps p.tables e below (T8.setTop (mkF m 26 #[.val (.ref a5_0)] [(.ref a5_0), (.int (e0_ &&& (255 : Int32)))])) _
    refine st19 _ ?_
    exact k)
  obtain ⟨fs, hr, hrun, hended, hW, hsame⟩ := X19.leave (v := some (.int ((e0_ &&& (255 : Int32)) ^^^ w5_complement_a5_0))) (fun h => by rw [Bd.returns] at h; cases h)
  refine ⟨_, _, pre20 _ ?_, hrun, hended, _, _, rfl, ?_, ⟨_, rfl⟩, hW, hsame.mono (by decide) (by decide)⟩
  · show Steps p.tables e below (T19.setTop (mkF m 29 #[.val (.ref a5_0)] [(.int w5_complement_a5_0), (.int (e0_ &&& (255 : Int32)))])) _
    refine XS.ixor X19.here hx rfl (hb hby d5_29) rfl ?_
    show Steps p.tables e below (T19.setTop (mkF m 30 #[.val (.ref a5_0)] [(.int ((e0_ &&& (255 : Int32)) ^^^ w5_complement_a5_0))])) _
    exact retI X19 hx Bd.returns (hb hby d5_30) hr
  · show Q5_0 Z a5_0 ar ka e0_ e1_ e2_ w5_complement_a5_0 h0 n0 _ T19.heap _
    rw [e19]
    exact ⟨rfl, N17, k15, f12, f11, f13, f16⟩
theorem ef_6_rm6_1 (m : MethodId) (x0 : Addr) : entryFrame m #[(.ref x0), (.int (1 : Int32))] 2 = mkF m 0 #[.val (.ref x0), .val (.int (1 : Int32))] [] := by first | (simp [entryFrame, mkF, argsToLocals, Value.category]; done) | rfl
def Q6_1 (Z : State) (a6_0 : Addr) (ar : Addr) (ka : ClassId) (e0_ : Int32) (e1_ : Int32) (e2_ : Int32) (h0 : Heap) (n0 : Nat) (v : Option Value) (h : Heap) (L : List Loc) : Prop := v = none ∧ Fr n0 L ∧ h = h0
set_option maxRecDepth 65536 in
set_option maxHeartbeats 40000000 in
theorem rm6_1 (l : Launch) (Z : State) (a0 : Array Value) (hw : ∀ d ∈ tables_1, d.before a0 Z = true) (ws : List Jvm.Cond) (a6_0 : Addr) (ar : Addr) (ka : ClassId) (e0_ : Int32) (e1_ : Int32) (e2_ : Int32) (h0 : Heap) (n0 : Nat) (Z0 : n0 ≤ h0.size) (FB : Fld Z h0 a6_0 "com/example/libmosaic/libmosaic/encoding/ByteReader" "bytes" "[B" (.ref ar)) (FP : Fld Z h0 a6_0 "com/example/libmosaic/libmosaic/encoding/ByteReader" "position" "I" (.int (1 : Int32))) (VA : Arv Z h0 ar ka .byte (3 : Int32) [(.int e0_), (.int e1_), (.int e2_)] (.int (0 : Int32))) (ne_ar_a6_0 : ar ≠ a6_0) :
    MetFree l (⟨"com/example/libmosaic/libmosaic/encoding/ByteReader", "require", "(I)V"⟩ : MethodName) (head1 (Jvm.Cond.code (⟨"com/example/libmosaic/libmosaic/encoding/ByteReader", "require", "(I)V"⟩ : MethodName) prog_9_method_10_code 2 none :: ws) ({ frames := 0, cells := 0, slots := 0, locals := 0 } : Room)) (fun a U => a = #[(.ref a6_0), (.int (1 : Int32))] ∧ Z.Warmed39 U.vm ∧ U.heap = h0) (fun _ _ _ _ _ => True) (fun _ U o U' => ∃ v L, o = .returned v ∧ Q6_1 Z a6_0 ar ka e0_ e1_ e2_ h0 n0 v U'.heap L ∧ FrameEnd U o U' L ({ frames := 0, cells := 0, slots := 0, locals := 0 } : Room).cells ({ frames := 0, cells := 0, slots := 0, locals := 0 } : Room).slots) := by
  refine MetFree.of_bodySF (plainFor_of_name pn_6) hisR ?_
  intro p e s m args below meth c s₁ Bd hml0 hP hK
  obtain ⟨rfl, hZ, hh⟩ := hP
  have hVV : ∀ (i : Nat) (d : Jvm.Cond), tables_1[i]? = some d → d.before a0 Z = true := fun i d h => hw d (List.mem_of_getElem? h)
  have hx := Bd.exec
  have hby := Bd.bytes
  have hml : c.maxLocals = 2 := hml0
  have hown : s.vm.findClass "com/example/libmosaic/libmosaic/encoding/ByteReader" = some m.cls := findClass_of_methodNamed Bd.named
  have hnm := (name_of_methodNamed Bd.named Bd.method).1
  have X0 : Stand p l e ({ frames := 0, cells := 0, slots := 0, locals := 0 } : Room) s m #[(.ref a6_0), (.int (1 : Int32))] below meth c s₁ [] 0 0 := Stand.of_body Bd
  have e0 : s₁.heap = h0 := by rw [← hh, Bd.state]; rfl
  have N0 := Fr.nil n0
  have pre0 : ∀ t, Steps p.tables e below (s₁.setTop (mkF m 0 #[.val (.ref a6_0), .val (.int (1 : Int32))] [])) t → Steps p.tables e below (s₁.setTop (entryFrame m #[(.ref a6_0), (.int (1 : Int32))] 2)) t := fun t k => castTop (ef_6_rm6_1 m a6_0) k
  obtain ⟨T1, X1, e1, st1⟩ := getF X0 hx hZ hown (host := "") (Or.inl (hVV 10 _ rfl)) Via.refl e0 FB (g := (mkF m 5 #[.val (.ref a6_0), .val (.int (1 : Int32))] [(.ref a6_0)])) rfl rfl (hb hby d6_5)
  have pre2 : ∀ t, Steps p.tables e below (T1.setTop (mkF m 8 #[.val (.ref a6_0), .val (.int (1 : Int32))] [(.ref ar)])) t → Steps p.tables e below (s₁.setTop (entryFrame m #[(.ref a6_0), (.int (1 : Int32))] 2)) t := fun t k => pre0 t (by
    show Steps p.tables e below (s₁.setTop (mkF m 0 #[.val (.ref a6_0), .val (.int (1 : Int32))] [])) _
    refine XS.iloadN X0.here hx rfl (hb hby d6_0) rfl ?_
    show Steps p.tables e below (s₁.setTop (mkF m 1 #[.val (.ref a6_0), .val (.int (1 : Int32))] [(.int (1 : Int32))])) _
    refine XS.ifNo X0.here hx rfl (hb hby d6_1) rfl ((if0 _ _).trans (flt (by decide : ¬ ((1 : Int32) < (0 : Int32)))).1) ?_
    show Steps p.tables e below (s₁.setTop (mkF m 4 #[.val (.ref a6_0), .val (.int (1 : Int32))] [])) _
    refine XS.aloadN X0.here hx rfl (hb hby d6_4) rfl rfl ?_
    show Steps p.tables e below (s₁.setTop (mkF m 5 #[.val (.ref a6_0), .val (.int (1 : Int32))] [(.ref a6_0)])) _
    refine st1 _ ?_
    exact k)
  obtain ⟨cl3, Ar3, q3, S3, N3, H3, G3⟩ := id VA
  obtain ⟨T4, X4, e4, st4⟩ := getF X1 hx hZ hown (host := "") (Or.inl (hVV 12 _ rfl)) Via.refl e1 FP (g := (mkF m 10 #[.val (.ref a6_0), .val (.int (1 : Int32))] [(.ref a6_0), (.int (3 : Int32))])) rfl rfl (hb hby d6_10)
  have pre5 : ∀ t, Steps p.tables e below (T4.setTop (mkF m 13 #[.val (.ref a6_0), .val (.int (1 : Int32))] [(.int (1 : Int32)), (.int (3 : Int32))])) t → Steps p.tables e below (s₁.setTop (entryFrame m #[(.ref a6_0), (.int (1 : Int32))] 2)) t := fun t k => pre2 t (by
    show Steps p.tables e below (T1.setTop (mkF m 8 #[.val (.ref a6_0), .val (.int (1 : Int32))] [(.ref ar)])) _
    refine X1.arraylength hx (by rw [e1]; exact Ar3.1) (State.isArrayOf_alike hZ.alike Ar3.2.1) (g := (mkF m 8 #[.val (.ref a6_0), .val (.int (1 : Int32))] [(.ref ar)])) rfl rfl (hb hby d6_8) _ ?_
    rw [len_of S3 N3]
    show Steps p.tables e below (T1.setTop (mkF m 9 #[.val (.ref a6_0), .val (.int (1 : Int32))] [(.int (3 : Int32))])) _
    refine XS.aloadN X1.here hx rfl (hb hby d6_9) rfl rfl ?_
    show Steps p.tables e below (T1.setTop (mkF m 10 #[.val (.ref a6_0), .val (.int (1 : Int32))] [(.ref a6_0), (.int (3 : Int32))])) _
    refine st4 _ ?_
    exact k)
  have hd6 : ¬ (((3 : Int32) - (1 : Int32)) < (1 : Int32)) := by
    decide
  obtain ⟨fs, hr, hrun, hended, hW, hsame⟩ := X4.leave (v := none) (fun _ => rfl)
  refine ⟨_, _, pre5 _ ?_, hrun, hended, _, _, rfl, ?_, ⟨_, rfl⟩, hW, hsame.mono (by decide) (by decide)⟩
  · show Steps p.tables e below (T4.setTop (mkF m 13 #[.val (.ref a6_0), .val (.int (1 : Int32))] [(.int (1 : Int32)), (.int (3 : Int32))])) _
    refine XS.isub X4.here hx rfl (hb hby d6_13) rfl ?_
    show Steps p.tables e below (T4.setTop (mkF m 14 #[.val (.ref a6_0), .val (.int (1 : Int32))] [(.int ((3 : Int32) - (1 : Int32)))])) _
    refine XS.iloadN X4.here hx rfl (hb hby d6_14) rfl ?_
    show Steps p.tables e below (T4.setTop (mkF m 15 #[.val (.ref a6_0), .val (.int (1 : Int32))] [(.int (1 : Int32)), (.int ((3 : Int32) - (1 : Int32)))])) _
    refine XS.icmpYes X4.here hx rfl (pc0 := 15) (pc' := 63) rfl (hb hby d6_15) rfl (flt hd6).2.1 (by decide) (by decide) ?_
    show Steps p.tables e below (T4.setTop (mkF m 63 #[.val (.ref a6_0), .val (.int (1 : Int32))] [])) _
    exact X4.returnOut hx Bd.returns (hb hby d6_63) hr
  · show Q6_1 Z a6_0 ar ka e0_ e1_ e2_ h0 n0 _ T4.heap _
    rw [e4]
    exact ⟨rfl, N0, rfl⟩
def Q5_1 (Z : State) (a5_0 : Addr) (ar : Addr) (ka : ClassId) (e0_ : Int32) (e1_ : Int32) (e2_ : Int32) (w5_complement_a5_0 : Int32) (h0 : Heap) (n0 : Nat) (v : Option Value) (h : Heap) (L : List Loc) : Prop := v = some (.int ((e1_ &&& (255 : Int32)) ^^^ w5_complement_a5_0)) ∧ Fr n0 L ∧ Keep h0 h [a5_0] ∧ Exa Z h a5_0 "com/example/libmosaic/libmosaic/encoding/ByteReader" ∧ Fld Z h a5_0 "com/example/libmosaic/libmosaic/encoding/ByteReader" "bytes" "[B" (.ref ar) ∧ Fld Z h a5_0 "com/example/libmosaic/libmosaic/encoding/ByteReader" "complement" "I" (.int w5_complement_a5_0) ∧ Fld Z h a5_0 "com/example/libmosaic/libmosaic/encoding/ByteReader" "position" "I" (.int (2 : Int32))
set_option maxRecDepth 65536 in
set_option maxHeartbeats 40000000 in
theorem rm5_1 (l : Launch) (Z : State) (a0 : Array Value) (hw : ∀ d ∈ tables_1, d.before a0 Z = true) (ws : List Jvm.Cond) (a5_0 : Addr) (ar : Addr) (ka : ClassId) (e0_ : Int32) (e1_ : Int32) (e2_ : Int32) (w5_complement_a5_0 : Int32) (h0 : Heap) (n0 : Nat) (Z0 : n0 ≤ h0.size) (FB : Fld Z h0 a5_0 "com/example/libmosaic/libmosaic/encoding/ByteReader" "bytes" "[B" (.ref ar)) (FP : Fld Z h0 a5_0 "com/example/libmosaic/libmosaic/encoding/ByteReader" "position" "I" (.int (1 : Int32))) (VA : Arv Z h0 ar ka .byte (3 : Int32) [(.int e0_), (.int e1_), (.int e2_)] (.int (0 : Int32))) (ne_ar_a5_0 : ar ≠ a5_0) (E_a5_0 : Exa Z h0 a5_0 "com/example/libmosaic/libmosaic/encoding/ByteReader") (F_complement_a5_0 : Fld Z h0 a5_0 "com/example/libmosaic/libmosaic/encoding/ByteReader" "complement" "I" (.int w5_complement_a5_0)) (g_a5_0 : n0 ≤ a5_0) :
    MetFree l (⟨"com/example/libmosaic/libmosaic/encoding/ByteReader", "read", "()I"⟩ : MethodName) (head1 (Jvm.Cond.code (⟨"com/example/libmosaic/libmosaic/encoding/ByteReader", "read", "()I"⟩ : MethodName) prog_9_method_2_code 1 (some .int) :: ws) ({ frames := 1, cells := 0, slots := 0, locals := 13 } : Room)) (fun a U => a = #[(.ref a5_0)] ∧ Z.Warmed39 U.vm ∧ U.heap = h0) (fun _ _ _ _ _ => True) (fun _ U o U' => ∃ v L, o = .returned v ∧ Q5_1 Z a5_0 ar ka e0_ e1_ e2_ w5_complement_a5_0 h0 n0 v U'.heap L ∧ FrameEnd U o U' L ({ frames := 1, cells := 0, slots := 0, locals := 13 } : Room).cells ({ frames := 1, cells := 0, slots := 0, locals := 13 } : Room).slots) := by
  refine MetFree.of_bodySF (plainFor_of_name pn_5) hisR ?_
  intro p e s m args below meth c s₁ Bd hml0 hP hK
  obtain ⟨rfl, hZ, hh⟩ := hP
  have hVV : ∀ (i : Nat) (d : Jvm.Cond), tables_1[i]? = some d → d.before a0 Z = true := fun i d h => hw d (List.mem_of_getElem? h)
  have hx := Bd.exec
  have hby := Bd.bytes
  have hml : c.maxLocals = 1 := hml0
  have hown : s.vm.findClass "com/example/libmosaic/libmosaic/encoding/ByteReader" = some m.cls := findClass_of_methodNamed Bd.named
  have hnm := (name_of_methodNamed Bd.named Bd.method).1
  have X0 : Stand p l e ({ frames := 1, cells := 0, slots := 0, locals := 13 } : Room) s m #[(.ref a5_0)] below meth c s₁ [] 0 0 := Stand.of_body Bd
  have e0 : s₁.heap = h0 := by rw [← hh, Bd.state]; rfl
  have N0 := Fr.nil n0
  have pre0 : ∀ t, Steps p.tables e below (s₁.setTop (mkF m 0 #[.val (.ref a5_0)] [])) t → Steps p.tables e below (s₁.setTop (entryFrame m #[(.ref a5_0)] 1)) t := fun t k => castTop (ef_5 m a5_0) k
  obtain ⟨cq1, q1, q1'⟩ := E_a5_0.cell
  obtain ⟨_, _, ⟨T1, L1, k1, n1⟩, -, X1, ⟨Lc1, hQ1, l1, y1, z1⟩, st1⟩ := X0.privateBack hx (y := (⟨"com/example/libmosaic/libmosaic/encoding/ByteReader", "require", "(I)V"⟩ : MethodName)) hown (mvT hZ (hVV 31 _ rfl)) (mvT hZ (hVV 32 _ rfl)) (own_sel (z := (⟨"com/example/libmosaic/libmosaic/encoding/ByteReader", "complement", "(Z)Lcom/example/libmosaic/libmosaic/encoding/ByteReader;"⟩ : MethodName)) (mvT hZ (hVV 32 _ rfl)) (mvP hZ (hVV 33 _ rfl)) (mvT hZ (hVV 17 _ rfl)) rfl (by decide)) (Cond.privateMethod_at (mvP hZ (hVV 33 _ rfl) (args := #[]))) (mvT hZ (hVV 34 _ rfl)) (by decide) (backOf (W := 0) (rm6_1 l Z a0 hw [] a5_0 ar ka e0_ e1_ e2_ h0 n0 Z0 FB FP VA ne_ar_a5_0) hZ (hVV 34 _ rfl) (hVV 3 _ rfl) (by decide) (by decide)) (g := (mkF m 2 #[.val (.ref a5_0)] [(.int (1 : Int32)), (.ref a5_0)])) rfl (by rw [hml]; rfl) (Steps.refl _) (a := a5_0) (by rw [e0]; exact q1) q1' (argsL := [(.int (1 : Int32))]) (rest := []) (lenOf pd_0 rfl) rfl (by show 2 * 0 + _ ≤ _; exact Nat.le_of_eq rfl) (hb hby d5_2) (fun _ _ => ⟨rfl, e0, (by decide : 0 + 0 ≤ _), (by decide : 0 + 0 ≤ _)⟩)
  dsimp only [Pt.U, Pt.locs, Pt.cells, Pt.slots] at X1 l1 y1 z1 st1 hQ1
  subst l1 y1 z1
  obtain ⟨rfl, N1q, e1⟩ := hQ1
  have N2 := Fr.app N0 N1q
  have pre3 : ∀ t, Steps p.tables e below (T1.setTop (mkF m 5 #[.val (.ref a5_0)] [])) t → Steps p.tables e below (s₁.setTop (entryFrame m #[(.ref a5_0)] 1)) t := fun t k => pre0 t (by
    show Steps p.tables e below (s₁.setTop (mkF m 0 #[.val (.ref a5_0)] [])) _
    refine XS.aloadN X0.here hx rfl (hb hby d5_0) rfl rfl ?_
    show Steps p.tables e below (s₁.setTop (mkF m 1 #[.val (.ref a5_0)] [(.ref a5_0)])) _
    refine XS.iconst X0.here hx rfl (hb hby d5_1) ?_
    show Steps p.tables e below (s₁.setTop (mkF m 2 #[.val (.ref a5_0)] [(.int (1 : Int32)), (.ref a5_0)])) _
    refine st1.trans ?_
    exact k)
  obtain ⟨T4, X4, e4, st4⟩ := getF X1 hx hZ hown (host := "") (Or.inl (hVV 10 _ rfl)) Via.refl e1 FB (g := (mkF m 6 #[.val (.ref a5_0)] [(.ref a5_0)])) rfl rfl (hb hby d5_6)
  have pre5 : ∀ t, Steps p.tables e below (T4.setTop (mkF m 9 #[.val (.ref a5_0)] [(.ref ar)])) t → Steps p.tables e below (s₁.setTop (entryFrame m #[(.ref a5_0)] 1)) t := fun t k => pre3 t (by
    show Steps p.tables e below (T1.setTop (mkF m 5 #[.val (.ref a5_0)] [])) _
    refine XS.aloadN X1.here hx rfl (hb hby d5_5) rfl rfl ?_
    show Steps p.tables e below (T1.setTop (mkF m 6 #[.val (.ref a5_0)] [(.ref a5_0)])) _
    refine st4 _ ?_
    exact k)
  obtain ⟨T6, X6, e6, st6⟩ := getF X4 hx hZ hown (host := "") (Or.inl (hVV 12 _ rfl)) Via.refl e4 FP (g := (mkF m 11 #[.val (.ref a5_0)] [(.ref a5_0), (.ref a5_0), (.ref ar)])) rfl rfl (hb hby d5_11)
  have pre7 : ∀ t, Steps p.tables e below (T6.setTop (mkF m 14 #[.val (.ref a5_0)] [(.int (1 : Int32)), (.ref a5_0), (.ref ar)])) t → Steps p.tables e below (s₁.setTop (entryFrame m #[(.ref a5_0)] 1)) t := fun t k => pre5 t (by
    show Steps p.tables e below (T4.setTop (mkF m 9 #[.val (.ref a5_0)] [(.ref ar)])) _
    refine XS.aloadN X4.here hx rfl (hb hby d5_9) rfl rfl ?_
    show Steps p.tables e below (T4.setTop (mkF m 10 #[.val (.ref a5_0)] [(.ref a5_0), (.ref ar)])) _
    refine XS.dup X4.here hx rfl (hb hby d5_10) rfl rfl ?_
    show Steps p.tables e below (T4.setTop (mkF m 11 #[.val (.ref a5_0)] [(.ref a5_0), (.ref a5_0), (.ref ar)])) _
    refine st6 _ ?_
    exact k)
  obtain ⟨T8, h8, X8, e8, W8, st8⟩ := putF X6 hx hZ hown (host := "") (Or.inl (hVV 12 _ rfl)) Via.refl e6 FP E_a5_0 (Or.inl (hVV 13 _ rfl)) (hVV 2 _ rfl) (ty := .int) (by decide) rfl rfl (g := (mkF m 17 #[.val (.ref a5_0)] [(.int ((1 : Int32) + (1 : Int32))), (.ref a5_0), (.int (1 : Int32)), (.ref ar)])) rfl rfl (hb hby d5_17)
  have pre9 : ∀ t, Steps p.tables e below (T8.setTop (mkF m 20 #[.val (.ref a5_0)] [(.int (1 : Int32)), (.ref ar)])) t → Steps p.tables e below (s₁.setTop (entryFrame m #[(.ref a5_0)] 1)) t := fun t k => pre7 t (by
    show Steps p.tables e below (T6.setTop (mkF m 14 #[.val (.ref a5_0)] [(.int (1 : Int32)), (.ref a5_0), (.ref ar)])) _
    refine XS.dupX1 X6.here hx rfl (hb hby d5_14) rfl rfl rfl ?_
    show Steps p.tables e below (T6.setTop (mkF m 15 #[.val (.ref a5_0)] [(.int (1 : Int32)), (.ref a5_0), (.int (1 : Int32)), (.ref ar)])) _
    refine XS.iconst X6.here hx rfl (hb hby d5_15) ?_
    show Steps p.tables e below (T6.setTop (mkF m 16 #[.val (.ref a5_0)] [(.int (1 : Int32)), (.int (1 : Int32)), (.ref a5_0), (.int (1 : Int32)), (.ref ar)])) _
    refine XS.iadd X6.here hx rfl (hb hby d5_16) rfl ?_
    show Steps p.tables e below (T6.setTop (mkF m 17 #[.val (.ref a5_0)] [(.int ((1 : Int32) + (1 : Int32))), (.ref a5_0), (.int (1 : Int32)), (.ref ar)])) _
    refine st8 _ ?_
    exact k)
  have f10 := VA.other W8 ne_ar_a5_0
  have f11 := FB.other W8 (Or.inr (slot_ne (Or.inr (hVV 11 _ rfl)) (Or.inl (hVV 13 _ rfl)) (by decide) (t := (.array .byte)) (t' := .int) (by decide) (by decide)))
  have f12 := E_a5_0.wr W8
  have f13 := F_complement_a5_0.other W8 (Or.inr (slot_ne (Or.inl (hVV 20 _ rfl)) (Or.inl (hVV 13 _ rfl)) (by decide) (t := .int) (t' := .int) (by decide) (by decide)))
  have z14 := Nat.le_trans Z0 (Keep.of_wr W8).1
  have k15 := (Keep.refl h0 [a5_0]).wr W8 (Or.inl (List.mem_of_getElem? (i := 0) rfl))
  have f16 := FP.same W8
  rw [show ((1 : Int32) + (1 : Int32)) = (2 : Int32) from by decide] at f16
  have N17 := Fr.snoc X8 N2 g_a5_0
  obtain ⟨cl18, Ar18, q18, S18, N18, H18, G18⟩ := id f10
  have hin18 : ¬ ((1 : Int32) < 0 ∨ cl18.slots.size ≤ ((1 : Int32)).toNatClampNeg) := inb_of S18 ⟨by decide, by decide⟩
  have hat18 : cl18.slots[((1 : Int32)).toNatClampNeg]? = some (.int e1_) := Has.at H18 hin18 rfl
  obtain ⟨T19, X19, e19, st19⟩ := getF X8 hx hZ hown (host := "") (Or.inl (hVV 19 _ rfl)) Via.refl e8 f13 (g := (mkF m 26 #[.val (.ref a5_0)] [(.ref a5_0), (.int (e1_ &&& (255 : Int32)))])) rfl rfl (hb hby d5_26)
  have pre20 : ∀ t, Steps p.tables e below (T19.setTop (mkF m 29 #[.val (.ref a5_0)] [(.int w5_complement_a5_0), (.int (e1_ &&& (255 : Int32)))])) t → Steps p.tables e below (s₁.setTop (entryFrame m #[(.ref a5_0)] 1)) t := fun t k => pre9 t (by
    show Steps p.tables e below (T8.setTop (mkF m 20 #[.val (.ref a5_0)] [(.int (1 : Int32)), (.ref ar)])) _
    refine X8.baloadBytes hx (j := (1 : Int32)) (v := (.int e1_)) (by rw [e8]; exact Ar18.1) (State.isArrayOf_alike hZ.alike Ar18.2.1) Ar18.2.2 hin18 hat18 (g := (mkF m 20 #[.val (.ref a5_0)] [(.int (1 : Int32)), (.ref ar)])) rfl rfl (hb hby d5_20) _ ?_
    show Steps p.tables e below (T8.setTop (mkF m 21 #[.val (.ref a5_0)] [(.int e1_)])) _
    refine XS.sipush X8.here hx rfl (hb hby d5_21) ?_
    show Steps p.tables e below (T8.setTop (mkF m 24 #[.val (.ref a5_0)] [(.int (255 : Int32)), (.int e1_)])) _
    refine XS.iand X8.here hx rfl (hb hby d5_24) rfl ?_
    show Steps p.tables e below (T8.setTop (mkF m 25 #[.val (.ref a5_0)] [(.int (e1_ &&& (255 : Int32)))])) _
    refine XS.aloadN X8.here hx rfl (hb hby d5_25) rfl rfl ?_
    show Steps p.tables e below (T8.setTop (mkF m 26 #[.val (.ref a5_0)] [(.ref a5_0), (.int (e1_ &&& (255 : Int32)))])) _
    refine st19 _ ?_
    exact k)
  obtain ⟨fs, hr, hrun, hended, hW, hsame⟩ := X19.leave (v := some (.int ((e1_ &&& (255 : Int32)) ^^^ w5_complement_a5_0))) (fun h => by rw [Bd.returns] at h; cases h)
  refine ⟨_, _, pre20 _ ?_, hrun, hended, _, _, rfl, ?_, ⟨_, rfl⟩, hW, hsame.mono (by decide) (by decide)⟩
  · show Steps p.tables e below (T19.setTop (mkF m 29 #[.val (.ref a5_0)] [(.int w5_complement_a5_0), (.int (e1_ &&& (255 : Int32)))])) _
    refine XS.ixor X19.here hx rfl (hb hby d5_29) rfl ?_
    show Steps p.tables e below (T19.setTop (mkF m 30 #[.val (.ref a5_0)] [(.int ((e1_ &&& (255 : Int32)) ^^^ w5_complement_a5_0))])) _
    exact retI X19 hx Bd.returns (hb hby d5_30) hr
  · show Q5_1 Z a5_0 ar ka e0_ e1_ e2_ w5_complement_a5_0 h0 n0 _ T19.heap _
    rw [e19]
    exact ⟨rfl, N17, k15, f12, f11, f13, f16⟩
theorem ef_6_rm6_2 (m : MethodId) (x0 : Addr) : entryFrame m #[(.ref x0), (.int (1 : Int32))] 2 = mkF m 0 #[.val (.ref x0), .val (.int (1 : Int32))] [] := by first | (simp [entryFrame, mkF, argsToLocals, Value.category]; done) | rfl
def Q6_2 (Z : State) (a6_0 : Addr) (ar : Addr) (ka : ClassId) (e0_ : Int32) (e1_ : Int32) (e2_ : Int32) (h0 : Heap) (n0 : Nat) (v : Option Value) (h : Heap) (L : List Loc) : Prop := v = none ∧ Fr n0 L ∧ h = h0
set_option maxRecDepth 65536 in
set_option maxHeartbeats 40000000 in
theorem rm6_2 (l : Launch) (Z : State) (a0 : Array Value) (hw : ∀ d ∈ tables_1, d.before a0 Z = true) (ws : List Jvm.Cond) (a6_0 : Addr) (ar : Addr) (ka : ClassId) (e0_ : Int32) (e1_ : Int32) (e2_ : Int32) (h0 : Heap) (n0 : Nat) (Z0 : n0 ≤ h0.size) (FB : Fld Z h0 a6_0 "com/example/libmosaic/libmosaic/encoding/ByteReader" "bytes" "[B" (.ref ar)) (FP : Fld Z h0 a6_0 "com/example/libmosaic/libmosaic/encoding/ByteReader" "position" "I" (.int (2 : Int32))) (VA : Arv Z h0 ar ka .byte (3 : Int32) [(.int e0_), (.int e1_), (.int e2_)] (.int (0 : Int32))) (ne_ar_a6_0 : ar ≠ a6_0) :
    MetFree l (⟨"com/example/libmosaic/libmosaic/encoding/ByteReader", "require", "(I)V"⟩ : MethodName) (head1 (Jvm.Cond.code (⟨"com/example/libmosaic/libmosaic/encoding/ByteReader", "require", "(I)V"⟩ : MethodName) prog_9_method_10_code 2 none :: ws) ({ frames := 0, cells := 0, slots := 0, locals := 0 } : Room)) (fun a U => a = #[(.ref a6_0), (.int (1 : Int32))] ∧ Z.Warmed39 U.vm ∧ U.heap = h0) (fun _ _ _ _ _ => True) (fun _ U o U' => ∃ v L, o = .returned v ∧ Q6_2 Z a6_0 ar ka e0_ e1_ e2_ h0 n0 v U'.heap L ∧ FrameEnd U o U' L ({ frames := 0, cells := 0, slots := 0, locals := 0 } : Room).cells ({ frames := 0, cells := 0, slots := 0, locals := 0 } : Room).slots) := by
  refine MetFree.of_bodySF (plainFor_of_name pn_6) hisR ?_
  intro p e s m args below meth c s₁ Bd hml0 hP hK
  obtain ⟨rfl, hZ, hh⟩ := hP
  have hVV : ∀ (i : Nat) (d : Jvm.Cond), tables_1[i]? = some d → d.before a0 Z = true := fun i d h => hw d (List.mem_of_getElem? h)
  have hx := Bd.exec
  have hby := Bd.bytes
  have hml : c.maxLocals = 2 := hml0
  have hown : s.vm.findClass "com/example/libmosaic/libmosaic/encoding/ByteReader" = some m.cls := findClass_of_methodNamed Bd.named
  have hnm := (name_of_methodNamed Bd.named Bd.method).1
  have X0 : Stand p l e ({ frames := 0, cells := 0, slots := 0, locals := 0 } : Room) s m #[(.ref a6_0), (.int (1 : Int32))] below meth c s₁ [] 0 0 := Stand.of_body Bd
  have e0 : s₁.heap = h0 := by rw [← hh, Bd.state]; rfl
  have N0 := Fr.nil n0
  have pre0 : ∀ t, Steps p.tables e below (s₁.setTop (mkF m 0 #[.val (.ref a6_0), .val (.int (1 : Int32))] [])) t → Steps p.tables e below (s₁.setTop (entryFrame m #[(.ref a6_0), (.int (1 : Int32))] 2)) t := fun t k => castTop (ef_6_rm6_2 m a6_0) k
  obtain ⟨T1, X1, e1, st1⟩ := getF X0 hx hZ hown (host := "") (Or.inl (hVV 10 _ rfl)) Via.refl e0 FB (g := (mkF m 5 #[.val (.ref a6_0), .val (.int (1 : Int32))] [(.ref a6_0)])) rfl rfl (hb hby d6_5)
  have pre2 : ∀ t, Steps p.tables e below (T1.setTop (mkF m 8 #[.val (.ref a6_0), .val (.int (1 : Int32))] [(.ref ar)])) t → Steps p.tables e below (s₁.setTop (entryFrame m #[(.ref a6_0), (.int (1 : Int32))] 2)) t := fun t k => pre0 t (by
    show Steps p.tables e below (s₁.setTop (mkF m 0 #[.val (.ref a6_0), .val (.int (1 : Int32))] [])) _
    refine XS.iloadN X0.here hx rfl (hb hby d6_0) rfl ?_
    show Steps p.tables e below (s₁.setTop (mkF m 1 #[.val (.ref a6_0), .val (.int (1 : Int32))] [(.int (1 : Int32))])) _
    refine XS.ifNo X0.here hx rfl (hb hby d6_1) rfl ((if0 _ _).trans (flt (by decide : ¬ ((1 : Int32) < (0 : Int32)))).1) ?_
    show Steps p.tables e below (s₁.setTop (mkF m 4 #[.val (.ref a6_0), .val (.int (1 : Int32))] [])) _
    refine XS.aloadN X0.here hx rfl (hb hby d6_4) rfl rfl ?_
    show Steps p.tables e below (s₁.setTop (mkF m 5 #[.val (.ref a6_0), .val (.int (1 : Int32))] [(.ref a6_0)])) _
    refine st1 _ ?_
    exact k)
  obtain ⟨cl3, Ar3, q3, S3, N3, H3, G3⟩ := id VA
  obtain ⟨T4, X4, e4, st4⟩ := getF X1 hx hZ hown (host := "") (Or.inl (hVV 12 _ rfl)) Via.refl e1 FP (g := (mkF m 10 #[.val (.ref a6_0), .val (.int (1 : Int32))] [(.ref a6_0), (.int (3 : Int32))])) rfl rfl (hb hby d6_10)
  have pre5 : ∀ t, Steps p.tables e below (T4.setTop (mkF m 13 #[.val (.ref a6_0), .val (.int (1 : Int32))] [(.int (2 : Int32)), (.int (3 : Int32))])) t → Steps p.tables e below (s₁.setTop (entryFrame m #[(.ref a6_0), (.int (1 : Int32))] 2)) t := fun t k => pre2 t (by
    show Steps p.tables e below (T1.setTop (mkF m 8 #[.val (.ref a6_0), .val (.int (1 : Int32))] [(.ref ar)])) _
    refine X1.arraylength hx (by rw [e1]; exact Ar3.1) (State.isArrayOf_alike hZ.alike Ar3.2.1) (g := (mkF m 8 #[.val (.ref a6_0), .val (.int (1 : Int32))] [(.ref ar)])) rfl rfl (hb hby d6_8) _ ?_
    rw [len_of S3 N3]
    show Steps p.tables e below (T1.setTop (mkF m 9 #[.val (.ref a6_0), .val (.int (1 : Int32))] [(.int (3 : Int32))])) _
    refine XS.aloadN X1.here hx rfl (hb hby d6_9) rfl rfl ?_
    show Steps p.tables e below (T1.setTop (mkF m 10 #[.val (.ref a6_0), .val (.int (1 : Int32))] [(.ref a6_0), (.int (3 : Int32))])) _
    refine st4 _ ?_
    exact k)
  have hd6 : ¬ (((3 : Int32) - (2 : Int32)) < (1 : Int32)) := by
    decide
  obtain ⟨fs, hr, hrun, hended, hW, hsame⟩ := X4.leave (v := none) (fun _ => rfl)
  refine ⟨_, _, pre5 _ ?_, hrun, hended, _, _, rfl, ?_, ⟨_, rfl⟩, hW, hsame.mono (by decide) (by decide)⟩
  · show Steps p.tables e below (T4.setTop (mkF m 13 #[.val (.ref a6_0), .val (.int (1 : Int32))] [(.int (2 : Int32)), (.int (3 : Int32))])) _
    refine XS.isub X4.here hx rfl (hb hby d6_13) rfl ?_
    show Steps p.tables e below (T4.setTop (mkF m 14 #[.val (.ref a6_0), .val (.int (1 : Int32))] [(.int ((3 : Int32) - (2 : Int32)))])) _
    refine XS.iloadN X4.here hx rfl (hb hby d6_14) rfl ?_
    show Steps p.tables e below (T4.setTop (mkF m 15 #[.val (.ref a6_0), .val (.int (1 : Int32))] [(.int (1 : Int32)), (.int ((3 : Int32) - (2 : Int32)))])) _
    refine XS.icmpYes X4.here hx rfl (pc0 := 15) (pc' := 63) rfl (hb hby d6_15) rfl (flt hd6).2.1 (by decide) (by decide) ?_
    show Steps p.tables e below (T4.setTop (mkF m 63 #[.val (.ref a6_0), .val (.int (1 : Int32))] [])) _
    exact X4.returnOut hx Bd.returns (hb hby d6_63) hr
  · show Q6_2 Z a6_0 ar ka e0_ e1_ e2_ h0 n0 _ T4.heap _
    rw [e4]
    exact ⟨rfl, N0, rfl⟩
def Q5_2 (Z : State) (a5_0 : Addr) (ar : Addr) (ka : ClassId) (e0_ : Int32) (e1_ : Int32) (e2_ : Int32) (w5_complement_a5_0 : Int32) (h0 : Heap) (n0 : Nat) (v : Option Value) (h : Heap) (L : List Loc) : Prop := v = some (.int ((e2_ &&& (255 : Int32)) ^^^ w5_complement_a5_0)) ∧ Fr n0 L ∧ Keep h0 h [a5_0] ∧ Exa Z h a5_0 "com/example/libmosaic/libmosaic/encoding/ByteReader" ∧ Fld Z h a5_0 "com/example/libmosaic/libmosaic/encoding/ByteReader" "bytes" "[B" (.ref ar) ∧ Fld Z h a5_0 "com/example/libmosaic/libmosaic/encoding/ByteReader" "complement" "I" (.int w5_complement_a5_0) ∧ Fld Z h a5_0 "com/example/libmosaic/libmosaic/encoding/ByteReader" "position" "I" (.int (3 : Int32))
set_option maxRecDepth 65536 in
set_option maxHeartbeats 40000000 in
theorem rm5_2 (l : Launch) (Z : State) (a0 : Array Value) (hw : ∀ d ∈ tables_1, d.before a0 Z = true) (ws : List Jvm.Cond) (a5_0 : Addr) (ar : Addr) (ka : ClassId) (e0_ : Int32) (e1_ : Int32) (e2_ : Int32) (w5_complement_a5_0 : Int32) (h0 : Heap) (n0 : Nat) (Z0 : n0 ≤ h0.size) (FB : Fld Z h0 a5_0 "com/example/libmosaic/libmosaic/encoding/ByteReader" "bytes" "[B" (.ref ar)) (FP : Fld Z h0 a5_0 "com/example/libmosaic/libmosaic/encoding/ByteReader" "position" "I" (.int (2 : Int32))) (VA : Arv Z h0 ar ka .byte (3 : Int32) [(.int e0_), (.int e1_), (.int e2_)] (.int (0 : Int32))) (ne_ar_a5_0 : ar ≠ a5_0) (E_a5_0 : Exa Z h0 a5_0 "com/example/libmosaic/libmosaic/encoding/ByteReader") (F_complement_a5_0 : Fld Z h0 a5_0 "com/example/libmosaic/libmosaic/encoding/ByteReader" "complement" "I" (.int w5_complement_a5_0)) (g_a5_0 : n0 ≤ a5_0) :
    MetFree l (⟨"com/example/libmosaic/libmosaic/encoding/ByteReader", "read", "()I"⟩ : MethodName) (head1 (Jvm.Cond.code (⟨"com/example/libmosaic/libmosaic/encoding/ByteReader", "read", "()I"⟩ : MethodName) prog_9_method_2_code 1 (some .int) :: ws) ({ frames := 1, cells := 0, slots := 0, locals := 13 } : Room)) (fun a U => a = #[(.ref a5_0)] ∧ Z.Warmed39 U.vm ∧ U.heap = h0) (fun _ _ _ _ _ => True) (fun _ U o U' => ∃ v L, o = .returned v ∧ Q5_2 Z a5_0 ar ka e0_ e1_ e2_ w5_complement_a5_0 h0 n0 v U'.heap L ∧ FrameEnd U o U' L ({ frames := 1, cells := 0, slots := 0, locals := 13 } : Room).cells ({ frames := 1, cells := 0, slots := 0, locals := 13 } : Room).slots) := by
  refine MetFree.of_bodySF (plainFor_of_name pn_5) hisR ?_
  intro p e s m args below meth c s₁ Bd hml0 hP hK
  obtain ⟨rfl, hZ, hh⟩ := hP
  have hVV : ∀ (i : Nat) (d : Jvm.Cond), tables_1[i]? = some d → d.before a0 Z = true := fun i d h => hw d (List.mem_of_getElem? h)
  have hx := Bd.exec
  have hby := Bd.bytes
  have hml : c.maxLocals = 1 := hml0
  have hown : s.vm.findClass "com/example/libmosaic/libmosaic/encoding/ByteReader" = some m.cls := findClass_of_methodNamed Bd.named
  have hnm := (name_of_methodNamed Bd.named Bd.method).1
  have X0 : Stand p l e ({ frames := 1, cells := 0, slots := 0, locals := 13 } : Room) s m #[(.ref a5_0)] below meth c s₁ [] 0 0 := Stand.of_body Bd
  have e0 : s₁.heap = h0 := by rw [← hh, Bd.state]; rfl
  have N0 := Fr.nil n0
  have pre0 : ∀ t, Steps p.tables e below (s₁.setTop (mkF m 0 #[.val (.ref a5_0)] [])) t → Steps p.tables e below (s₁.setTop (entryFrame m #[(.ref a5_0)] 1)) t := fun t k => castTop (ef_5 m a5_0) k
  obtain ⟨cq1, q1, q1'⟩ := E_a5_0.cell
  obtain ⟨_, _, ⟨T1, L1, k1, n1⟩, -, X1, ⟨Lc1, hQ1, l1, y1, z1⟩, st1⟩ := X0.privateBack hx (y := (⟨"com/example/libmosaic/libmosaic/encoding/ByteReader", "require", "(I)V"⟩ : MethodName)) hown (mvT hZ (hVV 31 _ rfl)) (mvT hZ (hVV 32 _ rfl)) (own_sel (z := (⟨"com/example/libmosaic/libmosaic/encoding/ByteReader", "complement", "(Z)Lcom/example/libmosaic/libmosaic/encoding/ByteReader;"⟩ : MethodName)) (mvT hZ (hVV 32 _ rfl)) (mvP hZ (hVV 33 _ rfl)) (mvT hZ (hVV 17 _ rfl)) rfl (by decide)) (Cond.privateMethod_at (mvP hZ (hVV 33 _ rfl) (args := #[]))) (mvT hZ (hVV 34 _ rfl)) (by decide) (backOf (W := 0) (rm6_2 l Z a0 hw [] a5_0 ar ka e0_ e1_ e2_ h0 n0 Z0 FB FP VA ne_ar_a5_0) hZ (hVV 34 _ rfl) (hVV 3 _ rfl) (by decide) (by decide)) (g := (mkF m 2 #[.val (.ref a5_0)] [(.int (1 : Int32)), (.ref a5_0)])) rfl (by rw [hml]; rfl) (Steps.refl _) (a := a5_0) (by rw [e0]; exact q1) q1' (argsL := [(.int (1 : Int32))]) (rest := []) (lenOf pd_0 rfl) rfl (by show 2 * 0 + _ ≤ _; exact Nat.le_of_eq rfl) (hb hby d5_2) (fun _ _ => ⟨rfl, e0, (by decide : 0 + 0 ≤ _), (by decide : 0 + 0 ≤ _)⟩)
  dsimp only [Pt.U, Pt.locs, Pt.cells, Pt.slots] at X1 l1 y1 z1 st1 hQ1
  subst l1 y1 z1
  obtain ⟨rfl, N1q, e1⟩ := hQ1
  have N2 := Fr.app N0 N1q
  have pre3 : ∀ t, Steps p.tables e below (T1.setTop (mkF m 5 #[.val (.ref a5_0)] [])) t → Steps p.tables e below (s₁.setTop (entryFrame m #[(.ref a5_0)] 1)) t := fun t k => pre0 t (by
    show Steps p.tables e below (s₁.setTop (mkF m 0 #[.val (.ref a5_0)] [])) _
    refine XS.aloadN X0.here hx rfl (hb hby d5_0) rfl rfl ?_
    show Steps p.tables e below (s₁.setTop (mkF m 1 #[.val (.ref a5_0)] [(.ref a5_0)])) _
    refine XS.iconst X0.here hx rfl (hb hby d5_1) ?_
    show Steps p.tables e below (s₁.setTop (mkF m 2 #[.val (.ref a5_0)] [(.int (1 : Int32)), (.ref a5_0)])) _
    refine st1.trans ?_
    exact k)
  obtain ⟨T4, X4, e4, st4⟩ := getF X1 hx hZ hown (host := "") (Or.inl (hVV 10 _ rfl)) Via.refl e1 FB (g := (mkF m 6 #[.val (.ref a5_0)] [(.ref a5_0)])) rfl rfl (hb hby d5_6)
  have pre5 : ∀ t, Steps p.tables e below (T4.setTop (mkF m 9 #[.val (.ref a5_0)] [(.ref ar)])) t → Steps p.tables e below (s₁.setTop (entryFrame m #[(.ref a5_0)] 1)) t := fun t k => pre3 t (by
    show Steps p.tables e below (T1.setTop (mkF m 5 #[.val (.ref a5_0)] [])) _
    refine XS.aloadN X1.here hx rfl (hb hby d5_5) rfl rfl ?_
    show Steps p.tables e below (T1.setTop (mkF m 6 #[.val (.ref a5_0)] [(.ref a5_0)])) _
    refine st4 _ ?_
    exact k)
  obtain ⟨T6, X6, e6, st6⟩ := getF X4 hx hZ hown (host := "") (Or.inl (hVV 12 _ rfl)) Via.refl e4 FP (g := (mkF m 11 #[.val (.ref a5_0)] [(.ref a5_0), (.ref a5_0), (.ref ar)])) rfl rfl (hb hby d5_11)
  have pre7 : ∀ t, Steps p.tables e below (T6.setTop (mkF m 14 #[.val (.ref a5_0)] [(.int (2 : Int32)), (.ref a5_0), (.ref ar)])) t → Steps p.tables e below (s₁.setTop (entryFrame m #[(.ref a5_0)] 1)) t := fun t k => pre5 t (by
    show Steps p.tables e below (T4.setTop (mkF m 9 #[.val (.ref a5_0)] [(.ref ar)])) _
    refine XS.aloadN X4.here hx rfl (hb hby d5_9) rfl rfl ?_
    show Steps p.tables e below (T4.setTop (mkF m 10 #[.val (.ref a5_0)] [(.ref a5_0), (.ref ar)])) _
    refine XS.dup X4.here hx rfl (hb hby d5_10) rfl rfl ?_
    show Steps p.tables e below (T4.setTop (mkF m 11 #[.val (.ref a5_0)] [(.ref a5_0), (.ref a5_0), (.ref ar)])) _
    refine st6 _ ?_
    exact k)
  obtain ⟨T8, h8, X8, e8, W8, st8⟩ := putF X6 hx hZ hown (host := "") (Or.inl (hVV 12 _ rfl)) Via.refl e6 FP E_a5_0 (Or.inl (hVV 13 _ rfl)) (hVV 2 _ rfl) (ty := .int) (by decide) rfl rfl (g := (mkF m 17 #[.val (.ref a5_0)] [(.int ((2 : Int32) + (1 : Int32))), (.ref a5_0), (.int (2 : Int32)), (.ref ar)])) rfl rfl (hb hby d5_17)
  have pre9 : ∀ t, Steps p.tables e below (T8.setTop (mkF m 20 #[.val (.ref a5_0)] [(.int (2 : Int32)), (.ref ar)])) t → Steps p.tables e below (s₁.setTop (entryFrame m #[(.ref a5_0)] 1)) t := fun t k => pre7 t (by
    show Steps p.tables e below (T6.setTop (mkF m 14 #[.val (.ref a5_0)] [(.int (2 : Int32)), (.ref a5_0), (.ref ar)])) _
    refine XS.dupX1 X6.here hx rfl (hb hby d5_14) rfl rfl rfl ?_
    show Steps p.tables e below (T6.setTop (mkF m 15 #[.val (.ref a5_0)] [(.int (2 : Int32)), (.ref a5_0), (.int (2 : Int32)), (.ref ar)])) _
    refine XS.iconst X6.here hx rfl (hb hby d5_15) ?_
    show Steps p.tables e below (T6.setTop (mkF m 16 #[.val (.ref a5_0)] [(.int (1 : Int32)), (.int (2 : Int32)), (.ref a5_0), (.int (2 : Int32)), (.ref ar)])) _
    refine XS.iadd X6.here hx rfl (hb hby d5_16) rfl ?_
    show Steps p.tables e below (T6.setTop (mkF m 17 #[.val (.ref a5_0)] [(.int ((2 : Int32) + (1 : Int32))), (.ref a5_0), (.int (2 : Int32)), (.ref ar)])) _
    refine st8 _ ?_
    exact k)
  have f10 := VA.other W8 ne_ar_a5_0
  have f11 := FB.other W8 (Or.inr (slot_ne (Or.inr (hVV 11 _ rfl)) (Or.inl (hVV 13 _ rfl)) (by decide) (t := (.array .byte)) (t' := .int) (by decide) (by decide)))
  have f12 := E_a5_0.wr W8
  have f13 := F_complement_a5_0.other W8 (Or.inr (slot_ne (Or.inl (hVV 20 _ rfl)) (Or.inl (hVV 13 _ rfl)) (by decide) (t := .int) (t' := .int) (by decide) (by decide)))
  have z14 := Nat.le_trans Z0 (Keep.of_wr W8).1
  have k15 := (Keep.refl h0 [a5_0]).wr W8 (Or.inl (List.mem_of_getElem? (i := 0) rfl))
  have f16 := FP.same W8
  rw [show ((2 : Int32) + (1 : Int32)) = (3 : Int32) from by decide] at f16
  have N17 := Fr.snoc X8 N2 g_a5_0
  obtain ⟨cl18, Ar18, q18, S18, N18, H18, G18⟩ := id f10
  have hin18 : ¬ ((2 : Int32) < 0 ∨ cl18.slots.size ≤ ((2 : Int32)).toNatClampNeg) := inb_of S18 ⟨by decide, by decide⟩
  have hat18 : cl18.slots[((2 : Int32)).toNatClampNeg]? = some (.int e2_) := Has.at H18 hin18 rfl
  obtain ⟨T19, X19, e19, st19⟩ := getF X8 hx hZ hown (host := "") (Or.inl (hVV 19 _ rfl)) Via.refl e8 f13 (g := (mkF m 26 #[.val (.ref a5_0)] [(.ref a5_0), (.int (e2_ &&& (255 : Int32)))])) rfl rfl (hb hby d5_26)
  have pre20 : ∀ t, Steps p.tables e below (T19.setTop (mkF m 29 #[.val (.ref a5_0)] [(.int w5_complement_a5_0), (.int (e2_ &&& (255 : Int32)))])) t → Steps p.tables e below (s₁.setTop (entryFrame m #[(.ref a5_0)] 1)) t := fun t k => pre9 t (by
    show Steps p.tables e below (T8.setTop (mkF m 20 #[.val (.ref a5_0)] [(.int (2 : Int32)), (.ref ar)])) _
    refine X8.baloadBytes hx (j := (2 : Int32)) (v := (.int e2_)) (by rw [e8]; exact Ar18.1) (State.isArrayOf_alike hZ.alike Ar18.2.1) Ar18.2.2 hin18 hat18 (g := (mkF m 20 #[.val (.ref a5_0)] [(.int (2 : Int32)), (.ref ar)])) rfl rfl (hb hby d5_20) _ ?_
    show Steps p.tables e below (T8.setTop (mkF m 21 #[.val (.ref a5_0)] [(.int e2_)])) _
    refine XS.sipush X8.here hx rfl (hb hby d5_21) ?_
    show Steps p.tables e below (T8.setTop (mkF m 24 #[.val (.ref a5_0)] [(.int (255 : Int32)), (.int e2_)])) _
    refine XS.iand X8.here hx rfl (hb hby d5_24) rfl ?_
    show Steps p.tables e below (T8.setTop (mkF m 25 #[.val (.ref a5_0)] [(.int (e2_ &&& (255 : Int32)))])) _
    refine XS.aloadN X8.here hx rfl (hb hby d5_25) rfl rfl ?_
    show Steps p.tables e below (T8.setTop (mkF m 26 #[.val (.ref a5_0)] [(.ref a5_0), (.int (e2_ &&& (255 : Int32)))])) _
    refine st19 _ ?_
    exact k)
  obtain ⟨fs, hr, hrun, hended, hW, hsame⟩ := X19.leave (v := some (.int ((e2_ &&& (255 : Int32)) ^^^ w5_complement_a5_0))) (fun h => by rw [Bd.returns] at h; cases h)
  refine ⟨_, _, pre20 _ ?_, hrun, hended, _, _, rfl, ?_, ⟨_, rfl⟩, hW, hsame.mono (by decide) (by decide)⟩
  · show Steps p.tables e below (T19.setTop (mkF m 29 #[.val (.ref a5_0)] [(.int w5_complement_a5_0), (.int (e2_ &&& (255 : Int32)))])) _
    refine XS.ixor X19.here hx rfl (hb hby d5_29) rfl ?_
    show Steps p.tables e below (T19.setTop (mkF m 30 #[.val (.ref a5_0)] [(.int ((e2_ &&& (255 : Int32)) ^^^ w5_complement_a5_0))])) _
    exact retI X19 hx Bd.returns (hb hby d5_30) hr
  · show Q5_2 Z a5_0 ar ka e0_ e1_ e2_ w5_complement_a5_0 h0 n0 _ T19.heap _
    rw [e19]
    exact ⟨rfl, N17, k15, f12, f11, f13, f16⟩
theorem pd_1 : parseMethodDescriptor "([BI)V" = some ⟨[(.array .byte), .int], none⟩ := by decide +kernel
theorem pd_2 : parseMethodDescriptor "(Z)Lcom/example/libmosaic/libmosaic/encoding/ByteReader;" = some ⟨[.boolean], some (.object "com/example/libmosaic/libmosaic/encoding/ByteReader")⟩ := by decide +kernel
theorem pd_3 : parseMethodDescriptor "()I" = some ⟨[], some .int⟩ := by decide +kernel
theorem pd_4 : parseMethodDescriptor "(IZ)I" = some ⟨[.int, .boolean], some .int⟩ := by decide +kernel
theorem pn_0 : plainName "com/example/libmosaic/libmosaic/encoding/ByteReaderComplementPinLaw" = true := by first | (simp [plainName, overriddenIn]; done) | decide +kernel
theorem ef_0 (m : MethodId) (x0 : Int32) (x1 : Int32) (x2 : Int32) (x3 : Int32) : entryFrame m #[(.int x0), (.int x1), (.int x2), (.int x3)] maxLocals = mkF m 0 #[.val (.int x0), .val (.int x1), .val (.int x2), .val (.int x3), .unset, .unset, .unset, .unset, .unset, .unset, .unset, .unset, .unset, .unset, .unset] [] := by first | (simp [entryFrame, mkF, argsToLocals, Value.category, maxLocals]; done) | rfl
def Q0 (Z : State) (p0_0 : Int32) (p0_1 : Int32) (p0_2 : Int32) (p0_3 : Int32) (h0 : Heap) (n0 : Nat) (v : Option Value) (h : Heap) (L : List Loc) : Prop := v = some (.int (1 : Int32)) ∧ Fr n0 L
set_option maxRecDepth 65536 in
set_option maxHeartbeats 40000000 in
theorem rm0 (l : Launch) (Z : State) (a0 : Array Value) (hw : ∀ d ∈ tables_1, d.before a0 Z = true) (ws : List Jvm.Cond) (p0_0 : Int32) (p0_1 : Int32) (p0_2 : Int32) (p0_3 : Int32) (h0 : Heap) (n0 : Nat) (Z0 : n0 ≤ h0.size) :
    MetFree l x (head1 (Jvm.Cond.code x code maxLocals ret :: ws) room_1) (fun a U => a = #[(.int p0_0), (.int p0_1), (.int p0_2), (.int p0_3)] ∧ Z.Warmed39 U.vm ∧ U.heap = h0) (fun _ _ _ _ _ => True) (fun _ U o U' => ∃ v L, o = .returned v ∧ Q0 Z p0_0 p0_1 p0_2 p0_3 h0 n0 v U'.heap L ∧ FrameEnd U o U' L room_1.cells room_1.slots) := by
  refine MetFree.of_bodySF (plainFor_of_name pn_0) hisR ?_
  intro p e s m args below meth c s₁ Bd hml0 hP hK
  obtain ⟨rfl, hZ, hh⟩ := hP
  have hVV : ∀ (i : Nat) (d : Jvm.Cond), tables_1[i]? = some d → d.before a0 Z = true := fun i d h => hw d (List.mem_of_getElem? h)
  have hx := Bd.exec
  have hby := Bd.bytes
  have hml : c.maxLocals = 15 := hml0
  have hown : s.vm.findClass "com/example/libmosaic/libmosaic/encoding/ByteReaderComplementPinLaw" = some m.cls := findClass_of_methodNamed Bd.named
  have hnm := (name_of_methodNamed Bd.named Bd.method).1
  have X0 : Stand p l e room_1 s m #[(.int p0_0), (.int p0_1), (.int p0_2), (.int p0_3)] below meth c s₁ [] 0 0 := Stand.of_body Bd
  have e0 : s₁.heap = h0 := by rw [← hh, Bd.state]; rfl
  have N0 := Fr.nil n0
  have pre0 : ∀ t, Steps p.tables e below (s₁.setTop (mkF m 0 #[.val (.int p0_0), .val (.int p0_1), .val (.int p0_2), .val (.int p0_3), .unset, .unset, .unset, .unset, .unset, .unset, .unset, .unset, .unset, .unset, .unset] [])) t → Steps p.tables e below (s₁.setTop (entryFrame m #[(.int p0_0), (.int p0_1), (.int p0_2), (.int p0_3)] maxLocals)) t := fun t k => castTop (ef_0 m p0_0 p0_1 p0_2 p0_3) k
  have pre2 : ∀ t, Steps p.tables e below (s₁.setTop (mkF m 3 #[.val (.int p0_0), .val (.int p0_1), .val (.int p0_2), .val (.int p0_3), .unset, .unset, .unset, .unset, .unset, .unset, .unset, .unset, .unset, .unset, .unset] [(.int (p0_3 &&& (1 : Int32)))])) t → Steps p.tables e below (s₁.setTop (entryFrame m #[(.int p0_0), (.int p0_1), (.int p0_2), (.int p0_3)] maxLocals)) t := fun t k => pre0 t (by
    show Steps p.tables e below (s₁.setTop (mkF m 0 #[.val (.int p0_0), .val (.int p0_1), .val (.int p0_2), .val (.int p0_3), .unset, .unset, .unset, .unset, .unset, .unset, .unset, .unset, .unset, .unset, .unset] [])) _
    refine XS.iloadN X0.here hx rfl (hb hby at_0) rfl ?_
    show Steps p.tables e below (s₁.setTop (mkF m 1 #[.val (.int p0_0), .val (.int p0_1), .val (.int p0_2), .val (.int p0_3), .unset, .unset, .unset, .unset, .unset, .unset, .unset, .unset, .unset, .unset, .unset] [(.int p0_3)])) _
    refine XS.iconst X0.here hx rfl (hb hby at_1) ?_
    show Steps p.tables e below (s₁.setTop (mkF m 2 #[.val (.int p0_0), .val (.int p0_1), .val (.int p0_2), .val (.int p0_3), .unset, .unset, .unset, .unset, .unset, .unset, .unset, .unset, .unset, .unset, .unset] [(.int (1 : Int32)), (.int p0_3)])) _
    refine XS.iand X0.here hx rfl (hb hby at_2) rfl ?_
    exact k)
  have pre3 : ∀ t, Steps p.tables e below (s₁.setTop (mkF m 11 #[.val (.int p0_0), .val (.int p0_1), .val (.int p0_2), .val (.int p0_3), .unset, .unset, .unset, .unset, .unset, .unset, .unset, .unset, .unset, .unset, .unset] [(.int (bI (¬ ((p0_3 &&& (1 : Int32)) = (0 : Int32)))))])) t → Steps p.tables e below (s₁.setTop (entryFrame m #[(.int p0_0), (.int p0_1), (.int p0_2), (.int p0_3)] maxLocals)) t := fun t k => pre2 t (by
    by_cases hc1 : (p0_3 &&& (1 : Int32)) = (0 : Int32)
    · show Steps p.tables e below (s₁.setTop (mkF m 3 #[.val (.int p0_0), .val (.int p0_1), .val (.int p0_2), .val (.int p0_3), .unset, .unset, .unset, .unset, .unset, .unset, .unset, .unset, .unset, .unset, .unset] [(.int (p0_3 &&& (1 : Int32)))])) _
      refine XS.ifYes X0.here hx rfl (pc0 := 3) (pc' := 10) rfl (hb hby at_3) rfl ((if0 _ _).trans (teq hc1).1) (by decide) (by decide) ?_
      show Steps p.tables e below (s₁.setTop (mkF m 10 #[.val (.int p0_0), .val (.int p0_1), .val (.int p0_2), .val (.int p0_3), .unset, .unset, .unset, .unset, .unset, .unset, .unset, .unset, .unset, .unset, .unset] [])) _
      refine XS.iconst X0.here hx rfl (hb hby at_10) ?_
      have q4 : (bI (¬ ((p0_3 &&& (1 : Int32)) = (0 : Int32)))) = (0 : Int32) := (bI_f (fun q => q hc1))
      exact castTop (g := (mkF m 11 #[.val (.int p0_0), .val (.int p0_1), .val (.int p0_2), .val (.int p0_3), .unset, .unset, .unset, .unset, .unset, .unset, .unset, .unset, .unset, .unset, .unset] [(.int (0 : Int32))])) (g' := (mkF m 11 #[.val (.int p0_0), .val (.int p0_1), .val (.int p0_2), .val (.int p0_3), .unset, .unset, .unset, .unset, .unset, .unset, .unset, .unset, .unset, .unset, .unset] [(.int (bI (¬ ((p0_3 &&& (1 : Int32)) = (0 : Int32)))))])) (by simp only [q4]) k
    · show Steps p.tables e below (s₁.setTop (mkF m 3 #[.val (.int p0_0), .val (.int p0_1), .val (.int p0_2), .val (.int p0_3), .unset, .unset, .unset, .unset, .unset, .unset, .unset, .unset, .unset, .unset, .unset] [(.int (p0_3 &&& (1 : Int32)))])) _
      refine XS.ifNo X0.here hx rfl (hb hby at_3) rfl ((if0 _ _).trans (feq hc1).1) ?_
      show Steps p.tables e below (s₁.setTop (mkF m 6 #[.val (.int p0_0), .val (.int p0_1), .val (.int p0_2), .val (.int p0_3), .unset, .unset, .unset, .unset, .unset, .unset, .unset, .unset, .unset, .unset, .unset] [])) _
      refine XS.iconst X0.here hx rfl (hb hby at_6) ?_
      show Steps p.tables e below (s₁.setTop (mkF m 7 #[.val (.int p0_0), .val (.int p0_1), .val (.int p0_2), .val (.int p0_3), .unset, .unset, .unset, .unset, .unset, .unset, .unset, .unset, .unset, .unset, .unset] [(.int (1 : Int32))])) _
      refine XS.goto X0.here hx rfl (pc0 := 7) (pc' := 11) rfl (hb hby at_7) (by decide) (by decide) ?_
      have q5 : (bI (¬ ((p0_3 &&& (1 : Int32)) = (0 : Int32)))) = (1 : Int32) := (bI_t hc1)
      exact castTop (g := (mkF m 11 #[.val (.int p0_0), .val (.int p0_1), .val (.int p0_2), .val (.int p0_3), .unset, .unset, .unset, .unset, .unset, .unset, .unset, .unset, .unset, .unset, .unset] [(.int (1 : Int32))])) (g' := (mkF m 11 #[.val (.int p0_0), .val (.int p0_1), .val (.int p0_2), .val (.int p0_3), .unset, .unset, .unset, .unset, .unset, .unset, .unset, .unset, .unset, .unset, .unset] [(.int (bI (¬ ((p0_3 &&& (1 : Int32)) = (0 : Int32)))))])) (by simp only [q5]) k)
  have pre7 : ∀ t, Steps p.tables e below (s₁.setTop (mkF m 16 #[.val (.int p0_0), .val (.int p0_1), .val (.int p0_2), .val (.int p0_3), .val (.int (bI (¬ ((p0_3 &&& (1 : Int32)) = (0 : Int32))))), .unset, .unset, .unset, .unset, .unset, .unset, .unset, .unset, .unset, .unset] [(.int (p0_3 &&& (2 : Int32)))])) t → Steps p.tables e below (s₁.setTop (entryFrame m #[(.int p0_0), (.int p0_1), (.int p0_2), (.int p0_3)] maxLocals)) t := fun t k => pre3 t (by
    show Steps p.tables e below (s₁.setTop (mkF m 11 #[.val (.int p0_0), .val (.int p0_1), .val (.int p0_2), .val (.int p0_3), .unset, .unset, .unset, .unset, .unset, .unset, .unset, .unset, .unset, .unset, .unset] [(.int (bI (¬ ((p0_3 &&& (1 : Int32)) = (0 : Int32)))))])) _
    refine XS.istore X0.here hx rfl (hb hby at_11) rfl (l' := #[.val (.int p0_0), .val (.int p0_1), .val (.int p0_2), .val (.int p0_3), .val (.int (bI (¬ ((p0_3 &&& (1 : Int32)) = (0 : Int32))))), .unset, .unset, .unset, .unset, .unset, .unset, .unset, .unset, .unset, .unset]) rfl ?_
    show Steps p.tables e below (s₁.setTop (mkF m 13 #[.val (.int p0_0), .val (.int p0_1), .val (.int p0_2), .val (.int p0_3), .val (.int (bI (¬ ((p0_3 &&& (1 : Int32)) = (0 : Int32))))), .unset, .unset, .unset, .unset, .unset, .unset, .unset, .unset, .unset, .unset] [])) _
    refine XS.iloadN X0.here hx rfl (hb hby at_13) rfl ?_
    show Steps p.tables e below (s₁.setTop (mkF m 14 #[.val (.int p0_0), .val (.int p0_1), .val (.int p0_2), .val (.int p0_3), .val (.int (bI (¬ ((p0_3 &&& (1 : Int32)) = (0 : Int32))))), .unset, .unset, .unset, .unset, .unset, .unset, .unset, .unset, .unset, .unset] [(.int p0_3)])) _
    refine XS.iconst X0.here hx rfl (hb hby at_14) ?_
    show Steps p.tables e below (s₁.setTop (mkF m 15 #[.val (.int p0_0), .val (.int p0_1), .val (.int p0_2), .val (.int p0_3), .val (.int (bI (¬ ((p0_3 &&& (1 : Int32)) = (0 : Int32))))), .unset, .unset, .unset, .unset, .unset, .unset, .unset, .unset, .unset, .unset] [(.int (2 : Int32)), (.int p0_3)])) _
    refine XS.iand X0.here hx rfl (hb hby at_15) rfl ?_
    exact k)
  have pre8 : ∀ t, Steps p.tables e below (s₁.setTop (mkF m 24 #[.val (.int p0_0), .val (.int p0_1), .val (.int p0_2), .val (.int p0_3), .val (.int (bI (¬ ((p0_3 &&& (1 : Int32)) = (0 : Int32))))), .unset, .unset, .unset, .unset, .unset, .unset, .unset, .unset, .unset, .unset] [(.int (bI (¬ ((p0_3 &&& (2 : Int32)) = (0 : Int32)))))])) t → Steps p.tables e below (s₁.setTop (entryFrame m #[(.int p0_0), (.int p0_1), (.int p0_2), (.int p0_3)] maxLocals)) t := fun t k => pre7 t (by
    by_cases hc6 : (p0_3 &&& (2 : Int32)) = (0 : Int32)
    · show Steps p.tables e below (s₁.setTop (mkF m 16 #[.val (.int p0_0), .val (.int p0_1), .val (.int p0_2), .val (.int p0_3), .val (.int (bI (¬ ((p0_3 &&& (1 : Int32)) = (0 : Int32))))), .unset, .unset, .unset, .unset, .unset, .unset, .unset, .unset, .unset, .unset] [(.int (p0_3 &&& (2 : Int32)))])) _
      refine XS.ifYes X0.here hx rfl (pc0 := 16) (pc' := 23) rfl (hb hby at_16) rfl ((if0 _ _).trans (teq hc6).1) (by decide) (by decide) ?_
      show Steps p.tables e below (s₁.setTop (mkF m 23 #[.val (.int p0_0), .val (.int p0_1), .val (.int p0_2), .val (.int p0_3), .val (.int (bI (¬ ((p0_3 &&& (1 : Int32)) = (0 : Int32))))), .unset, .unset, .unset, .unset, .unset, .unset, .unset, .unset, .unset, .unset] [])) _
      refine XS.iconst X0.here hx rfl (hb hby at_23) ?_
      have q9 : (bI (¬ ((p0_3 &&& (2 : Int32)) = (0 : Int32)))) = (0 : Int32) := (bI_f (fun q => q hc6))
      exact castTop (g := (mkF m 24 #[.val (.int p0_0), .val (.int p0_1), .val (.int p0_2), .val (.int p0_3), .val (.int (bI (¬ ((p0_3 &&& (1 : Int32)) = (0 : Int32))))), .unset, .unset, .unset, .unset, .unset, .unset, .unset, .unset, .unset, .unset] [(.int (0 : Int32))])) (g' := (mkF m 24 #[.val (.int p0_0), .val (.int p0_1), .val (.int p0_2), .val (.int p0_3), .val (.int (bI (¬ ((p0_3 &&& (1 : Int32)) = (0 : Int32))))), .unset, .unset, .unset, .unset, .unset, .unset, .unset, .unset, .unset, .unset] [(.int (bI (¬ ((p0_3 &&& (2 : Int32)) = (0 : Int32)))))])) (by simp only [q9]) k
    · show Steps p.tables e below (s₁.setTop (mkF m 16 #[.val (.int p0_0), .val (.int p0_1), .val (.int p0_2), .val (.int p0_3), .val (.int (bI (¬ ((p0_3 &&& (1 : Int32)) = (0 : Int32))))), .unset, .unset, .unset, .unset, .unset, .unset, .unset, .unset, .unset, .unset] [(.int (p0_3 &&& (2 : Int32)))])) _
      refine XS.ifNo X0.here hx rfl (hb hby at_16) rfl ((if0 _ _).trans (feq hc6).1) ?_
      show Steps p.tables e below (s₁.setTop (mkF m 19 #[.val (.int p0_0), .val (.int p0_1), .val (.int p0_2), .val (.int p0_3), .val (.int (bI (¬ ((p0_3 &&& (1 : Int32)) = (0 : Int32))))), .unset, .unset, .unset, .unset, .unset, .unset, .unset, .unset, .unset, .unset] [])) _
      refine XS.iconst X0.here hx rfl (hb hby at_19) ?_
      show Steps p.tables e below (s₁.setTop (mkF m 20 #[.val (.int p0_0), .val (.int p0_1), .val (.int p0_2), .val (.int p0_3), .val (.int (bI (¬ ((p0_3 &&& (1 : Int32)) = (0 : Int32))))), .unset, .unset, .unset, .unset, .unset, .unset, .unset, .unset, .unset, .unset] [(.int (1 : Int32))])) _
      refine XS.goto X0.here hx rfl (pc0 := 20) (pc' := 24) rfl (hb hby at_20) (by decide) (by decide) ?_
      have q10 : (bI (¬ ((p0_3 &&& (2 : Int32)) = (0 : Int32)))) = (1 : Int32) := (bI_t hc6)
      exact castTop (g := (mkF m 24 #[.val (.int p0_0), .val (.int p0_1), .val (.int p0_2), .val (.int p0_3), .val (.int (bI (¬ ((p0_3 &&& (1 : Int32)) = (0 : Int32))))), .unset, .unset, .unset, .unset, .unset, .unset, .unset, .unset, .unset, .unset] [(.int (1 : Int32))])) (g' := (mkF m 24 #[.val (.int p0_0), .val (.int p0_1), .val (.int p0_2), .val (.int p0_3), .val (.int (bI (¬ ((p0_3 &&& (1 : Int32)) = (0 : Int32))))), .unset, .unset, .unset, .unset, .unset, .unset, .unset, .unset, .unset, .unset] [(.int (bI (¬ ((p0_3 &&& (2 : Int32)) = (0 : Int32)))))])) (by simp only [q10]) k)
  have pre12 : ∀ t, Steps p.tables e below (s₁.setTop (mkF m 29 #[.val (.int p0_0), .val (.int p0_1), .val (.int p0_2), .val (.int p0_3), .val (.int (bI (¬ ((p0_3 &&& (1 : Int32)) = (0 : Int32))))), .val (.int (bI (¬ ((p0_3 &&& (2 : Int32)) = (0 : Int32))))), .unset, .unset, .unset, .unset, .unset, .unset, .unset, .unset, .unset] [(.int (p0_3 &&& (4 : Int32)))])) t → Steps p.tables e below (s₁.setTop (entryFrame m #[(.int p0_0), (.int p0_1), (.int p0_2), (.int p0_3)] maxLocals)) t := fun t k => pre8 t (by
    show Steps p.tables e below (s₁.setTop (mkF m 24 #[.val (.int p0_0), .val (.int p0_1), .val (.int p0_2), .val (.int p0_3), .val (.int (bI (¬ ((p0_3 &&& (1 : Int32)) = (0 : Int32))))), .unset, .unset, .unset, .unset, .unset, .unset, .unset, .unset, .unset, .unset] [(.int (bI (¬ ((p0_3 &&& (2 : Int32)) = (0 : Int32)))))])) _
    refine XS.istore X0.here hx rfl (hb hby at_24) rfl (l' := #[.val (.int p0_0), .val (.int p0_1), .val (.int p0_2), .val (.int p0_3), .val (.int (bI (¬ ((p0_3 &&& (1 : Int32)) = (0 : Int32))))), .val (.int (bI (¬ ((p0_3 &&& (2 : Int32)) = (0 : Int32))))), .unset, .unset, .unset, .unset, .unset, .unset, .unset, .unset, .unset]) rfl ?_
    show Steps p.tables e below (s₁.setTop (mkF m 26 #[.val (.int p0_0), .val (.int p0_1), .val (.int p0_2), .val (.int p0_3), .val (.int (bI (¬ ((p0_3 &&& (1 : Int32)) = (0 : Int32))))), .val (.int (bI (¬ ((p0_3 &&& (2 : Int32)) = (0 : Int32))))), .unset, .unset, .unset, .unset, .unset, .unset, .unset, .unset, .unset] [])) _
    refine XS.iloadN X0.here hx rfl (hb hby at_26) rfl ?_
    show Steps p.tables e below (s₁.setTop (mkF m 27 #[.val (.int p0_0), .val (.int p0_1), .val (.int p0_2), .val (.int p0_3), .val (.int (bI (¬ ((p0_3 &&& (1 : Int32)) = (0 : Int32))))), .val (.int (bI (¬ ((p0_3 &&& (2 : Int32)) = (0 : Int32))))), .unset, .unset, .unset, .unset, .unset, .unset, .unset, .unset, .unset] [(.int p0_3)])) _
    refine XS.iconst X0.here hx rfl (hb hby at_27) ?_
    show Steps p.tables e below (s₁.setTop (mkF m 28 #[.val (.int p0_0), .val (.int p0_1), .val (.int p0_2), .val (.int p0_3), .val (.int (bI (¬ ((p0_3 &&& (1 : Int32)) = (0 : Int32))))), .val (.int (bI (¬ ((p0_3 &&& (2 : Int32)) = (0 : Int32))))), .unset, .unset, .unset, .unset, .unset, .unset, .unset, .unset, .unset] [(.int (4 : Int32)), (.int p0_3)])) _
    refine XS.iand X0.here hx rfl (hb hby at_28) rfl ?_
    exact k)
  have pre13 : ∀ t, Steps p.tables e below (s₁.setTop (mkF m 37 #[.val (.int p0_0), .val (.int p0_1), .val (.int p0_2), .val (.int p0_3), .val (.int (bI (¬ ((p0_3 &&& (1 : Int32)) = (0 : Int32))))), .val (.int (bI (¬ ((p0_3 &&& (2 : Int32)) = (0 : Int32))))), .unset, .unset, .unset, .unset, .unset, .unset, .unset, .unset, .unset] [(.int (bI (¬ ((p0_3 &&& (4 : Int32)) = (0 : Int32)))))])) t → Steps p.tables e below (s₁.setTop (entryFrame m #[(.int p0_0), (.int p0_1), (.int p0_2), (.int p0_3)] maxLocals)) t := fun t k => pre12 t (by
    by_cases hc11 : (p0_3 &&& (4 : Int32)) = (0 : Int32)
    · show Steps p.tables e below (s₁.setTop (mkF m 29 #[.val (.int p0_0), .val (.int p0_1), .val (.int p0_2), .val (.int p0_3), .val (.int (bI (¬ ((p0_3 &&& (1 : Int32)) = (0 : Int32))))), .val (.int (bI (¬ ((p0_3 &&& (2 : Int32)) = (0 : Int32))))), .unset, .unset, .unset, .unset, .unset, .unset, .unset, .unset, .unset] [(.int (p0_3 &&& (4 : Int32)))])) _
      refine XS.ifYes X0.here hx rfl (pc0 := 29) (pc' := 36) rfl (hb hby at_29) rfl ((if0 _ _).trans (teq hc11).1) (by decide) (by decide) ?_
      show Steps p.tables e below (s₁.setTop (mkF m 36 #[.val (.int p0_0), .val (.int p0_1), .val (.int p0_2), .val (.int p0_3), .val (.int (bI (¬ ((p0_3 &&& (1 : Int32)) = (0 : Int32))))), .val (.int (bI (¬ ((p0_3 &&& (2 : Int32)) = (0 : Int32))))), .unset, .unset, .unset, .unset, .unset, .unset, .unset, .unset, .unset] [])) _
      refine XS.iconst X0.here hx rfl (hb hby at_36) ?_
      have q14 : (bI (¬ ((p0_3 &&& (4 : Int32)) = (0 : Int32)))) = (0 : Int32) := (bI_f (fun q => q hc11))
      exact castTop (g := (mkF m 37 #[.val (.int p0_0), .val (.int p0_1), .val (.int p0_2), .val (.int p0_3), .val (.int (bI (¬ ((p0_3 &&& (1 : Int32)) = (0 : Int32))))), .val (.int (bI (¬ ((p0_3 &&& (2 : Int32)) = (0 : Int32))))), .unset, .unset, .unset, .unset, .unset, .unset, .unset, .unset, .unset] [(.int (0 : Int32))])) (g' := (mkF m 37 #[.val (.int p0_0), .val (.int p0_1), .val (.int p0_2), .val (.int p0_3), .val (.int (bI (¬ ((p0_3 &&& (1 : Int32)) = (0 : Int32))))), .val (.int (bI (¬ ((p0_3 &&& (2 : Int32)) = (0 : Int32))))), .unset, .unset, .unset, .unset, .unset, .unset, .unset, .unset, .unset] [(.int (bI (¬ ((p0_3 &&& (4 : Int32)) = (0 : Int32)))))])) (by simp only [q14]) k
    · show Steps p.tables e below (s₁.setTop (mkF m 29 #[.val (.int p0_0), .val (.int p0_1), .val (.int p0_2), .val (.int p0_3), .val (.int (bI (¬ ((p0_3 &&& (1 : Int32)) = (0 : Int32))))), .val (.int (bI (¬ ((p0_3 &&& (2 : Int32)) = (0 : Int32))))), .unset, .unset, .unset, .unset, .unset, .unset, .unset, .unset, .unset] [(.int (p0_3 &&& (4 : Int32)))])) _
      refine XS.ifNo X0.here hx rfl (hb hby at_29) rfl ((if0 _ _).trans (feq hc11).1) ?_
      show Steps p.tables e below (s₁.setTop (mkF m 32 #[.val (.int p0_0), .val (.int p0_1), .val (.int p0_2), .val (.int p0_3), .val (.int (bI (¬ ((p0_3 &&& (1 : Int32)) = (0 : Int32))))), .val (.int (bI (¬ ((p0_3 &&& (2 : Int32)) = (0 : Int32))))), .unset, .unset, .unset, .unset, .unset, .unset, .unset, .unset, .unset] [])) _
      refine XS.iconst X0.here hx rfl (hb hby at_32) ?_
      show Steps p.tables e below (s₁.setTop (mkF m 33 #[.val (.int p0_0), .val (.int p0_1), .val (.int p0_2), .val (.int p0_3), .val (.int (bI (¬ ((p0_3 &&& (1 : Int32)) = (0 : Int32))))), .val (.int (bI (¬ ((p0_3 &&& (2 : Int32)) = (0 : Int32))))), .unset, .unset, .unset, .unset, .unset, .unset, .unset, .unset, .unset] [(.int (1 : Int32))])) _
      refine XS.goto X0.here hx rfl (pc0 := 33) (pc' := 37) rfl (hb hby at_33) (by decide) (by decide) ?_
      have q15 : (bI (¬ ((p0_3 &&& (4 : Int32)) = (0 : Int32)))) = (1 : Int32) := (bI_t hc11)
      exact castTop (g := (mkF m 37 #[.val (.int p0_0), .val (.int p0_1), .val (.int p0_2), .val (.int p0_3), .val (.int (bI (¬ ((p0_3 &&& (1 : Int32)) = (0 : Int32))))), .val (.int (bI (¬ ((p0_3 &&& (2 : Int32)) = (0 : Int32))))), .unset, .unset, .unset, .unset, .unset, .unset, .unset, .unset, .unset] [(.int (1 : Int32))])) (g' := (mkF m 37 #[.val (.int p0_0), .val (.int p0_1), .val (.int p0_2), .val (.int p0_3), .val (.int (bI (¬ ((p0_3 &&& (1 : Int32)) = (0 : Int32))))), .val (.int (bI (¬ ((p0_3 &&& (2 : Int32)) = (0 : Int32))))), .unset, .unset, .unset, .unset, .unset, .unset, .unset, .unset, .unset] [(.int (bI (¬ ((p0_3 &&& (4 : Int32)) = (0 : Int32)))))])) (by simp only [q15]) k)
  obtain ⟨T16, h16, k16, X16, e16, E16, A16, st16⟩ := newP X0 hx hZ (hVV 0 _ rfl) e0 (g := (mkF m 40 #[.val (.int p0_0), .val (.int p0_1), .val (.int p0_2), .val (.int p0_3), .val (.int (bI (¬ ((p0_3 &&& (1 : Int32)) = (0 : Int32))))), .val (.int (bI (¬ ((p0_3 &&& (2 : Int32)) = (0 : Int32))))), .val (.int (bI (¬ ((p0_3 &&& (4 : Int32)) = (0 : Int32))))), .unset, .unset, .unset, .unset, .unset, .unset, .unset, .unset] [(.int (3 : Int32))])) rfl (hb hby at_40) rfl (by decide) (cap := 3) (by decide) (by decide) (by decide) (by decide)
  obtain ⟨b16, g16⟩ : ∃ z, z = h0.size := ⟨_, rfl⟩
  rw [← g16] at A16 st16
  have gz16 : n0 ≤ b16 := Nat.le_trans Z0 (Nat.le_of_eq g16.symm)
  have pre17 : ∀ t, Steps p.tables e below (T16.setTop (mkF m 42 #[.val (.int p0_0), .val (.int p0_1), .val (.int p0_2), .val (.int p0_3), .val (.int (bI (¬ ((p0_3 &&& (1 : Int32)) = (0 : Int32))))), .val (.int (bI (¬ ((p0_3 &&& (2 : Int32)) = (0 : Int32))))), .val (.int (bI (¬ ((p0_3 &&& (4 : Int32)) = (0 : Int32))))), .unset, .unset, .unset, .unset, .unset, .unset, .unset, .unset] [(.ref b16)])) t → Steps p.tables e below (s₁.setTop (entryFrame m #[(.int p0_0), (.int p0_1), (.int p0_2), (.int p0_3)] maxLocals)) t := fun t k => pre13 t (by
    show Steps p.tables e below (s₁.setTop (mkF m 37 #[.val (.int p0_0), .val (.int p0_1), .val (.int p0_2), .val (.int p0_3), .val (.int (bI (¬ ((p0_3 &&& (1 : Int32)) = (0 : Int32))))), .val (.int (bI (¬ ((p0_3 &&& (2 : Int32)) = (0 : Int32))))), .unset, .unset, .unset, .unset, .unset, .unset, .unset, .unset, .unset] [(.int (bI (¬ ((p0_3 &&& (4 : Int32)) = (0 : Int32)))))])) _
    refine XS.istore X0.here hx rfl (hb hby at_37) rfl (l' := #[.val (.int p0_0), .val (.int p0_1), .val (.int p0_2), .val (.int p0_3), .val (.int (bI (¬ ((p0_3 &&& (1 : Int32)) = (0 : Int32))))), .val (.int (bI (¬ ((p0_3 &&& (2 : Int32)) = (0 : Int32))))), .val (.int (bI (¬ ((p0_3 &&& (4 : Int32)) = (0 : Int32))))), .unset, .unset, .unset, .unset, .unset, .unset, .unset, .unset]) rfl ?_
    show Steps p.tables e below (s₁.setTop (mkF m 39 #[.val (.int p0_0), .val (.int p0_1), .val (.int p0_2), .val (.int p0_3), .val (.int (bI (¬ ((p0_3 &&& (1 : Int32)) = (0 : Int32))))), .val (.int (bI (¬ ((p0_3 &&& (2 : Int32)) = (0 : Int32))))), .val (.int (bI (¬ ((p0_3 &&& (4 : Int32)) = (0 : Int32))))), .unset, .unset, .unset, .unset, .unset, .unset, .unset, .unset] [])) _
    refine XS.iconst X0.here hx rfl (hb hby at_39) ?_
    show Steps p.tables e below (s₁.setTop (mkF m 40 #[.val (.int p0_0), .val (.int p0_1), .val (.int p0_2), .val (.int p0_3), .val (.int (bI (¬ ((p0_3 &&& (1 : Int32)) = (0 : Int32))))), .val (.int (bI (¬ ((p0_3 &&& (2 : Int32)) = (0 : Int32))))), .val (.int (bI (¬ ((p0_3 &&& (4 : Int32)) = (0 : Int32))))), .unset, .unset, .unset, .unset, .unset, .unset, .unset, .unset] [(.int (3 : Int32))])) _
    refine st16 _ ?_
    exact k)
  have z18 := Nat.le_trans Z0 E16.1
  have V19 : Arv Z h16 b16 k16 .byte (3 : Int32) [(.int (0 : Int32)), (.int (0 : Int32)), (.int (0 : Int32))] (.int (0 : Int32)) := (Arv.new A16 (by decide)).pad (pad_rep [] (.int (0 : Int32)) 3)
  obtain ⟨cl20, Ar20, q20, S20, N20, H20, G20⟩ := id V19
  have hin20 : ¬ ((0 : Int32) < 0 ∨ cl20.slots.size ≤ ((0 : Int32)).toNatClampNeg) := inb_of S20 ⟨by decide, by decide⟩
  obtain ⟨T20, h20, X20, e20, W20, st20⟩ := stB X16 hx hZ e16 Ar20 (j := (0 : Int32)) hin20 (g := (mkF m 49 #[.val (.int p0_0), .val (.int p0_1), .val (.int p0_2), .val (.int p0_3), .val (.int (bI (¬ ((p0_3 &&& (1 : Int32)) = (0 : Int32))))), .val (.int (bI (¬ ((p0_3 &&& (2 : Int32)) = (0 : Int32))))), .val (.int (bI (¬ ((p0_3 &&& (4 : Int32)) = (0 : Int32))))), .val (.ref b16), .unset, .unset, .unset, .unset, .unset, .unset, .unset] [(.int (p0_0.toInt8.toInt32)), (.int (0 : Int32)), (.ref b16)])) rfl rfl (hb hby at_49)
  have V21 : Arv Z h20 b16 k16 .byte (3 : Int32) [(.int ((p0_0.toInt8.toInt32)).toInt8.toInt32), (.int (0 : Int32)), (.int (0 : Int32))] (.int (0 : Int32)) := Arv.set Ar20 q20 S20 N20 H20 G20 (fits_nar_byte _) W20 0 rfl (Nat.le_of_ble_eq_true rfl)
  have pre22 : ∀ t, Steps p.tables e below (T20.setTop (mkF m 50 #[.val (.int p0_0), .val (.int p0_1), .val (.int p0_2), .val (.int p0_3), .val (.int (bI (¬ ((p0_3 &&& (1 : Int32)) = (0 : Int32))))), .val (.int (bI (¬ ((p0_3 &&& (2 : Int32)) = (0 : Int32))))), .val (.int (bI (¬ ((p0_3 &&& (4 : Int32)) = (0 : Int32))))), .val (.ref b16), .unset, .unset, .unset, .unset, .unset, .unset, .unset] [])) t → Steps p.tables e below (s₁.setTop (entryFrame m #[(.int p0_0), (.int p0_1), (.int p0_2), (.int p0_3)] maxLocals)) t := fun t k => pre17 t (by
    show Steps p.tables e below (T16.setTop (mkF m 42 #[.val (.int p0_0), .val (.int p0_1), .val (.int p0_2), .val (.int p0_3), .val (.int (bI (¬ ((p0_3 &&& (1 : Int32)) = (0 : Int32))))), .val (.int (bI (¬ ((p0_3 &&& (2 : Int32)) = (0 : Int32))))), .val (.int (bI (¬ ((p0_3 &&& (4 : Int32)) = (0 : Int32))))), .unset, .unset, .unset, .unset, .unset, .unset, .unset, .unset] [(.ref b16)])) _
    refine XS.astore X16.here hx rfl (hb hby at_42) rfl rfl (l' := #[.val (.int p0_0), .val (.int p0_1), .val (.int p0_2), .val (.int p0_3), .val (.int (bI (¬ ((p0_3 &&& (1 : Int32)) = (0 : Int32))))), .val (.int (bI (¬ ((p0_3 &&& (2 : Int32)) = (0 : Int32))))), .val (.int (bI (¬ ((p0_3 &&& (4 : Int32)) = (0 : Int32))))), .val (.ref b16), .unset, .unset, .unset, .unset, .unset, .unset, .unset]) rfl ?_
    show Steps p.tables e below (T16.setTop (mkF m 44 #[.val (.int p0_0), .val (.int p0_1), .val (.int p0_2), .val (.int p0_3), .val (.int (bI (¬ ((p0_3 &&& (1 : Int32)) = (0 : Int32))))), .val (.int (bI (¬ ((p0_3 &&& (2 : Int32)) = (0 : Int32))))), .val (.int (bI (¬ ((p0_3 &&& (4 : Int32)) = (0 : Int32))))), .val (.ref b16), .unset, .unset, .unset, .unset, .unset, .unset, .unset] [])) _
    refine XS.aload X16.here hx rfl (hb hby at_44) rfl rfl ?_
    show Steps p.tables e below (T16.setTop (mkF m 46 #[.val (.int p0_0), .val (.int p0_1), .val (.int p0_2), .val (.int p0_3), .val (.int (bI (¬ ((p0_3 &&& (1 : Int32)) = (0 : Int32))))), .val (.int (bI (¬ ((p0_3 &&& (2 : Int32)) = (0 : Int32))))), .val (.int (bI (¬ ((p0_3 &&& (4 : Int32)) = (0 : Int32))))), .val (.ref b16), .unset, .unset, .unset, .unset, .unset, .unset, .unset] [(.ref b16)])) _
    refine XS.iconst X16.here hx rfl (hb hby at_46) ?_
    show Steps p.tables e below (T16.setTop (mkF m 47 #[.val (.int p0_0), .val (.int p0_1), .val (.int p0_2), .val (.int p0_3), .val (.int (bI (¬ ((p0_3 &&& (1 : Int32)) = (0 : Int32))))), .val (.int (bI (¬ ((p0_3 &&& (2 : Int32)) = (0 : Int32))))), .val (.int (bI (¬ ((p0_3 &&& (4 : Int32)) = (0 : Int32))))), .val (.ref b16), .unset, .unset, .unset, .unset, .unset, .unset, .unset] [(.int (0 : Int32)), (.ref b16)])) _
    refine XS.iloadN X16.here hx rfl (hb hby at_47) rfl ?_
    show Steps p.tables e below (T16.setTop (mkF m 48 #[.val (.int p0_0), .val (.int p0_1), .val (.int p0_2), .val (.int p0_3), .val (.int (bI (¬ ((p0_3 &&& (1 : Int32)) = (0 : Int32))))), .val (.int (bI (¬ ((p0_3 &&& (2 : Int32)) = (0 : Int32))))), .val (.int (bI (¬ ((p0_3 &&& (4 : Int32)) = (0 : Int32))))), .val (.ref b16), .unset, .unset, .unset, .unset, .unset, .unset, .unset] [(.int p0_0), (.int (0 : Int32)), (.ref b16)])) _
    refine XS.i2b X16.here hx rfl (hb hby at_48) rfl ?_
    show Steps p.tables e below (T16.setTop (mkF m 49 #[.val (.int p0_0), .val (.int p0_1), .val (.int p0_2), .val (.int p0_3), .val (.int (bI (¬ ((p0_3 &&& (1 : Int32)) = (0 : Int32))))), .val (.int (bI (¬ ((p0_3 &&& (2 : Int32)) = (0 : Int32))))), .val (.int (bI (¬ ((p0_3 &&& (4 : Int32)) = (0 : Int32))))), .val (.ref b16), .unset, .unset, .unset, .unset, .unset, .unset, .unset] [(.int (p0_0.toInt8.toInt32)), (.int (0 : Int32)), (.ref b16)])) _
    refine st20 _ ?_
    exact k)
  have z23 := Nat.le_trans z18 (Keep.of_wr W20).1
  have N24 := Fr.snoc X20 N0 gz16
  obtain ⟨cl25, Ar25, q25, S25, N25, H25, G25⟩ := id V21
  have hin25 : ¬ ((1 : Int32) < 0 ∨ cl25.slots.size ≤ ((1 : Int32)).toNatClampNeg) := inb_of S25 ⟨by decide, by decide⟩
  obtain ⟨T25, h25, X25, e25, W25, st25⟩ := stB X20 hx hZ e20 Ar25 (j := (1 : Int32)) hin25 (g := (mkF m 55 #[.val (.int p0_0), .val (.int p0_1), .val (.int p0_2), .val (.int p0_3), .val (.int (bI (¬ ((p0_3 &&& (1 : Int32)) = (0 : Int32))))), .val (.int (bI (¬ ((p0_3 &&& (2 : Int32)) = (0 : Int32))))), .val (.int (bI (¬ ((p0_3 &&& (4 : Int32)) = (0 : Int32))))), .val (.ref b16), .unset, .unset, .unset, .unset, .unset, .unset, .unset] [(.int (p0_1.toInt8.toInt32)), (.int (1 : Int32)), (.ref b16)])) rfl rfl (hb hby at_55)
  have V26 : Arv Z h25 b16 k16 .byte (3 : Int32) [(.int ((p0_0.toInt8.toInt32)).toInt8.toInt32), (.int ((p0_1.toInt8.toInt32)).toInt8.toInt32), (.int (0 : Int32))] (.int (0 : Int32)) := Arv.set Ar25 q25 S25 N25 H25 G25 (fits_nar_byte _) W25 1 rfl (Nat.le_of_ble_eq_true rfl)
  have pre27 : ∀ t, Steps p.tables e below (T25.setTop (mkF m 56 #[.val (.int p0_0), .val (.int p0_1), .val (.int p0_2), .val (.int p0_3), .val (.int (bI (¬ ((p0_3 &&& (1 : Int32)) = (0 : Int32))))), .val (.int (bI (¬ ((p0_3 &&& (2 : Int32)) = (0 : Int32))))), .val (.int (bI (¬ ((p0_3 &&& (4 : Int32)) = (0 : Int32))))), .val (.ref b16), .unset, .unset, .unset, .unset, .unset, .unset, .unset] [])) t → Steps p.tables e below (s₁.setTop (entryFrame m #[(.int p0_0), (.int p0_1), (.int p0_2), (.int p0_3)] maxLocals)) t := fun t k => pre22 t (by
    show Steps p.tables e below (T20.setTop (mkF m 50 #[.val (.int p0_0), .val (.int p0_1), .val (.int p0_2), .val (.int p0_3), .val (.int (bI (¬ ((p0_3 &&& (1 : Int32)) = (0 : Int32))))), .val (.int (bI (¬ ((p0_3 &&& (2 : Int32)) = (0 : Int32))))), .val (.int (bI (¬ ((p0_3 &&& (4 : Int32)) = (0 : Int32))))), .val (.ref b16), .unset, .unset, .unset, .unset, .unset, .unset, .unset] [])) _
    refine XS.aload X20.here hx rfl (hb hby at_50) rfl rfl ?_
    show Steps p.tables e below (T20.setTop (mkF m 52 #[.val (.int p0_0), .val (.int p0_1), .val (.int p0_2), .val (.int p0_3), .val (.int (bI (¬ ((p0_3 &&& (1 : Int32)) = (0 : Int32))))), .val (.int (bI (¬ ((p0_3 &&& (2 : Int32)) = (0 : Int32))))), .val (.int (bI (¬ ((p0_3 &&& (4 : Int32)) = (0 : Int32))))), .val (.ref b16), .unset, .unset, .unset, .unset, .unset, .unset, .unset] [(.ref b16)])) _
    refine XS.iconst X20.here hx rfl (hb hby at_52) ?_
    show Steps p.tables e below (T20.setTop (mkF m 53 #[.val (.int p0_0), .val (.int p0_1), .val (.int p0_2), .val (.int p0_3), .val (.int (bI (¬ ((p0_3 &&& (1 : Int32)) = (0 : Int32))))), .val (.int (bI (¬ ((p0_3 &&& (2 : Int32)) = (0 : Int32))))), .val (.int (bI (¬ ((p0_3 &&& (4 : Int32)) = (0 : Int32))))), .val (.ref b16), .unset, .unset, .unset, .unset, .unset, .unset, .unset] [(.int (1 : Int32)), (.ref b16)])) _
    refine XS.iloadN X20.here hx rfl (hb hby at_53) rfl ?_
    show Steps p.tables e below (T20.setTop (mkF m 54 #[.val (.int p0_0), .val (.int p0_1), .val (.int p0_2), .val (.int p0_3), .val (.int (bI (¬ ((p0_3 &&& (1 : Int32)) = (0 : Int32))))), .val (.int (bI (¬ ((p0_3 &&& (2 : Int32)) = (0 : Int32))))), .val (.int (bI (¬ ((p0_3 &&& (4 : Int32)) = (0 : Int32))))), .val (.ref b16), .unset, .unset, .unset, .unset, .unset, .unset, .unset] [(.int p0_1), (.int (1 : Int32)), (.ref b16)])) _
    refine XS.i2b X20.here hx rfl (hb hby at_54) rfl ?_
    show Steps p.tables e below (T20.setTop (mkF m 55 #[.val (.int p0_0), .val (.int p0_1), .val (.int p0_2), .val (.int p0_3), .val (.int (bI (¬ ((p0_3 &&& (1 : Int32)) = (0 : Int32))))), .val (.int (bI (¬ ((p0_3 &&& (2 : Int32)) = (0 : Int32))))), .val (.int (bI (¬ ((p0_3 &&& (4 : Int32)) = (0 : Int32))))), .val (.ref b16), .unset, .unset, .unset, .unset, .unset, .unset, .unset] [(.int (p0_1.toInt8.toInt32)), (.int (1 : Int32)), (.ref b16)])) _
    refine st25 _ ?_
    exact k)
  have z28 := Nat.le_trans z23 (Keep.of_wr W25).1
  have N29 := Fr.snoc X25 N24 gz16
  obtain ⟨cl30, Ar30, q30, S30, N30, H30, G30⟩ := id V26
  have hin30 : ¬ ((2 : Int32) < 0 ∨ cl30.slots.size ≤ ((2 : Int32)).toNatClampNeg) := inb_of S30 ⟨by decide, by decide⟩
  obtain ⟨T30, h30, X30, e30, W30, st30⟩ := stB X25 hx hZ e25 Ar30 (j := (2 : Int32)) hin30 (g := (mkF m 61 #[.val (.int p0_0), .val (.int p0_1), .val (.int p0_2), .val (.int p0_3), .val (.int (bI (¬ ((p0_3 &&& (1 : Int32)) = (0 : Int32))))), .val (.int (bI (¬ ((p0_3 &&& (2 : Int32)) = (0 : Int32))))), .val (.int (bI (¬ ((p0_3 &&& (4 : Int32)) = (0 : Int32))))), .val (.ref b16), .unset, .unset, .unset, .unset, .unset, .unset, .unset] [(.int (p0_2.toInt8.toInt32)), (.int (2 : Int32)), (.ref b16)])) rfl rfl (hb hby at_61)
  have V31 : Arv Z h30 b16 k16 .byte (3 : Int32) [(.int ((p0_0.toInt8.toInt32)).toInt8.toInt32), (.int ((p0_1.toInt8.toInt32)).toInt8.toInt32), (.int ((p0_2.toInt8.toInt32)).toInt8.toInt32)] (.int (0 : Int32)) := Arv.set Ar30 q30 S30 N30 H30 G30 (fits_nar_byte _) W30 2 rfl (Nat.le_of_ble_eq_true rfl)
  have pre32 : ∀ t, Steps p.tables e below (T30.setTop (mkF m 62 #[.val (.int p0_0), .val (.int p0_1), .val (.int p0_2), .val (.int p0_3), .val (.int (bI (¬ ((p0_3 &&& (1 : Int32)) = (0 : Int32))))), .val (.int (bI (¬ ((p0_3 &&& (2 : Int32)) = (0 : Int32))))), .val (.int (bI (¬ ((p0_3 &&& (4 : Int32)) = (0 : Int32))))), .val (.ref b16), .unset, .unset, .unset, .unset, .unset, .unset, .unset] [])) t → Steps p.tables e below (s₁.setTop (entryFrame m #[(.int p0_0), (.int p0_1), (.int p0_2), (.int p0_3)] maxLocals)) t := fun t k => pre27 t (by
    show Steps p.tables e below (T25.setTop (mkF m 56 #[.val (.int p0_0), .val (.int p0_1), .val (.int p0_2), .val (.int p0_3), .val (.int (bI (¬ ((p0_3 &&& (1 : Int32)) = (0 : Int32))))), .val (.int (bI (¬ ((p0_3 &&& (2 : Int32)) = (0 : Int32))))), .val (.int (bI (¬ ((p0_3 &&& (4 : Int32)) = (0 : Int32))))), .val (.ref b16), .unset, .unset, .unset, .unset, .unset, .unset, .unset] [])) _
    refine XS.aload X25.here hx rfl (hb hby at_56) rfl rfl ?_
    show Steps p.tables e below (T25.setTop (mkF m 58 #[.val (.int p0_0), .val (.int p0_1), .val (.int p0_2), .val (.int p0_3), .val (.int (bI (¬ ((p0_3 &&& (1 : Int32)) = (0 : Int32))))), .val (.int (bI (¬ ((p0_3 &&& (2 : Int32)) = (0 : Int32))))), .val (.int (bI (¬ ((p0_3 &&& (4 : Int32)) = (0 : Int32))))), .val (.ref b16), .unset, .unset, .unset, .unset, .unset, .unset, .unset] [(.ref b16)])) _
    refine XS.iconst X25.here hx rfl (hb hby at_58) ?_
    show Steps p.tables e below (T25.setTop (mkF m 59 #[.val (.int p0_0), .val (.int p0_1), .val (.int p0_2), .val (.int p0_3), .val (.int (bI (¬ ((p0_3 &&& (1 : Int32)) = (0 : Int32))))), .val (.int (bI (¬ ((p0_3 &&& (2 : Int32)) = (0 : Int32))))), .val (.int (bI (¬ ((p0_3 &&& (4 : Int32)) = (0 : Int32))))), .val (.ref b16), .unset, .unset, .unset, .unset, .unset, .unset, .unset] [(.int (2 : Int32)), (.ref b16)])) _
    refine XS.iloadN X25.here hx rfl (hb hby at_59) rfl ?_
    show Steps p.tables e below (T25.setTop (mkF m 60 #[.val (.int p0_0), .val (.int p0_1), .val (.int p0_2), .val (.int p0_3), .val (.int (bI (¬ ((p0_3 &&& (1 : Int32)) = (0 : Int32))))), .val (.int (bI (¬ ((p0_3 &&& (2 : Int32)) = (0 : Int32))))), .val (.int (bI (¬ ((p0_3 &&& (4 : Int32)) = (0 : Int32))))), .val (.ref b16), .unset, .unset, .unset, .unset, .unset, .unset, .unset] [(.int p0_2), (.int (2 : Int32)), (.ref b16)])) _
    refine XS.i2b X25.here hx rfl (hb hby at_60) rfl ?_
    show Steps p.tables e below (T25.setTop (mkF m 61 #[.val (.int p0_0), .val (.int p0_1), .val (.int p0_2), .val (.int p0_3), .val (.int (bI (¬ ((p0_3 &&& (1 : Int32)) = (0 : Int32))))), .val (.int (bI (¬ ((p0_3 &&& (2 : Int32)) = (0 : Int32))))), .val (.int (bI (¬ ((p0_3 &&& (4 : Int32)) = (0 : Int32))))), .val (.ref b16), .unset, .unset, .unset, .unset, .unset, .unset, .unset] [(.int (p0_2.toInt8.toInt32)), (.int (2 : Int32)), (.ref b16)])) _
    refine st30 _ ?_
    exact k)
  have z33 := Nat.le_trans z28 (Keep.of_wr W30).1
  have N34 := Fr.snoc X30 N29 gz16
  obtain ⟨T35, h35, X35, e35, E35, A35, D35, -, st35⟩ := newO X30 hx hZ hown (hVV 1 _ rfl) (hVV 2 _ rfl) (hVV 3 _ rfl) e30 (g := (mkF m 62 #[.val (.int p0_0), .val (.int p0_1), .val (.int p0_2), .val (.int p0_3), .val (.int (bI (¬ ((p0_3 &&& (1 : Int32)) = (0 : Int32))))), .val (.int (bI (¬ ((p0_3 &&& (2 : Int32)) = (0 : Int32))))), .val (.int (bI (¬ ((p0_3 &&& (4 : Int32)) = (0 : Int32))))), .val (.ref b16), .unset, .unset, .unset, .unset, .unset, .unset, .unset] [])) rfl (hb hby at_62) (by decide) (by decide)
  obtain ⟨b35, g35⟩ : ∃ z, z = h30.size := ⟨_, rfl⟩
  rw [← g35] at A35 D35 st35
  have gz35 : n0 ≤ b35 := Nat.le_trans z33 (Nat.le_of_eq g35.symm)
  have ne36 : b16 ≠ b35 := Nat.ne_of_lt (Nat.lt_of_lt_of_le V31.lt (Nat.le_of_eq g35.symm))
  have pre37 : ∀ t, Steps p.tables e below (T35.setTop (mkF m 65 #[.val (.int p0_0), .val (.int p0_1), .val (.int p0_2), .val (.int p0_3), .val (.int (bI (¬ ((p0_3 &&& (1 : Int32)) = (0 : Int32))))), .val (.int (bI (¬ ((p0_3 &&& (2 : Int32)) = (0 : Int32))))), .val (.int (bI (¬ ((p0_3 &&& (4 : Int32)) = (0 : Int32))))), .val (.ref b16), .unset, .unset, .unset, .unset, .unset, .unset, .unset] [(.ref b35)])) t → Steps p.tables e below (s₁.setTop (entryFrame m #[(.int p0_0), (.int p0_1), (.int p0_2), (.int p0_3)] maxLocals)) t := fun t k => pre32 t (by
    show Steps p.tables e below (T30.setTop (mkF m 62 #[.val (.int p0_0), .val (.int p0_1), .val (.int p0_2), .val (.int p0_3), .val (.int (bI (¬ ((p0_3 &&& (1 : Int32)) = (0 : Int32))))), .val (.int (bI (¬ ((p0_3 &&& (2 : Int32)) = (0 : Int32))))), .val (.int (bI (¬ ((p0_3 &&& (4 : Int32)) = (0 : Int32))))), .val (.ref b16), .unset, .unset, .unset, .unset, .unset, .unset, .unset] [])) _
    refine st35 _ ?_
    exact k)
  have f38 := V31.ext E35
  have z39 := Nat.le_trans z33 E35.1
  have f40 : Fld Z h35 b35 "com/example/libmosaic/libmosaic/encoding/ByteReader" "bytes" "[B" .null := D35 (Or.inr (hVV 11 _ rfl)) (ty := (.array .byte)) (by decide)
  have f41 : Fld Z h35 b35 "com/example/libmosaic/libmosaic/encoding/ByteReader" "position" "I" (.int (0 : Int32)) := D35 (Or.inl (hVV 13 _ rfl)) (ty := .int) (by decide)
  have f42 : Fld Z h35 b35 "com/example/libmosaic/libmosaic/encoding/ByteReader" "complement" "I" (.int (0 : Int32)) := D35 (Or.inl (hVV 20 _ rfl)) (ty := .int) (by decide)
  obtain ⟨_, _, ⟨T43, L43, k43, n43⟩, -, X43, ⟨Lc43, hQ43, l43, y43, z43⟩, st43⟩ := X35.specialBack hx (y := (⟨"com/example/libmosaic/libmosaic/encoding/ByteReader", "<init>", "([BI)V"⟩ : MethodName)) rfl hown (mvT hZ (hVV 4 _ rfl)) (mvT hZ (hVV 5 _ rfl)) (mvT hZ (hVV 6 _ rfl)) (by decide) (backOf (W := 1) (rm1 l Z a0 hw [] b35 b16 k16 (((p0_0.toInt8.toInt32)).toInt8.toInt32) (((p0_1.toInt8.toInt32)).toInt8.toInt32) (((p0_2.toInt8.toInt32)).toInt8.toInt32) .null (0 : Int32) (0 : Int32) h35 n0 z39 f38 ne36 A35 f40 f41 f42 gz35) hZ (hVV 6 _ rfl) (hVV 3 _ rfl) (by decide) (by decide)) (g := (mkF m 69 #[.val (.int p0_0), .val (.int p0_1), .val (.int p0_2), .val (.int p0_3), .val (.int (bI (¬ ((p0_3 &&& (1 : Int32)) = (0 : Int32))))), .val (.int (bI (¬ ((p0_3 &&& (2 : Int32)) = (0 : Int32))))), .val (.int (bI (¬ ((p0_3 &&& (4 : Int32)) = (0 : Int32))))), .val (.ref b16), .unset, .unset, .unset, .unset, .unset, .unset, .unset] [(.int (0 : Int32)), (.ref b16), (.ref b35), (.ref b35)])) rfl (by rw [hml]; rfl) (Steps.refl _) (a := b35) (argsL := [(.ref b16), (.int (0 : Int32))]) (rest := [(.ref b35)]) (lenOf pd_1 rfl) rfl (by show 2 * 0 + _ ≤ _; exact Nat.le_of_eq rfl) (hb hby at_69) (fun _ _ => ⟨rfl, e35, (by decide : 2 + 0 ≤ _), (by decide : 6 + 0 ≤ _)⟩)
  dsimp only [Pt.U, Pt.locs, Pt.cells, Pt.slots] at X43 l43 y43 z43 st43 hQ43
  subst l43 y43 z43
  obtain ⟨rfl, N43q, K43, r43_0, r43_1, r43_2, r43_3⟩ := hQ43
  have N44 := Fr.app N34 N43q
  have pre45 : ∀ t, Steps p.tables e below (T43.setTop (mkF m 72 #[.val (.int p0_0), .val (.int p0_1), .val (.int p0_2), .val (.int p0_3), .val (.int (bI (¬ ((p0_3 &&& (1 : Int32)) = (0 : Int32))))), .val (.int (bI (¬ ((p0_3 &&& (2 : Int32)) = (0 : Int32))))), .val (.int (bI (¬ ((p0_3 &&& (4 : Int32)) = (0 : Int32))))), .val (.ref b16), .unset, .unset, .unset, .unset, .unset, .unset, .unset] [(.ref b35)])) t → Steps p.tables e below (s₁.setTop (entryFrame m #[(.int p0_0), (.int p0_1), (.int p0_2), (.int p0_3)] maxLocals)) t := fun t k => pre37 t (by
    show Steps p.tables e below (T35.setTop (mkF m 65 #[.val (.int p0_0), .val (.int p0_1), .val (.int p0_2), .val (.int p0_3), .val (.int (bI (¬ ((p0_3 &&& (1 : Int32)) = (0 : Int32))))), .val (.int (bI (¬ ((p0_3 &&& (2 : Int32)) = (0 : Int32))))), .val (.int (bI (¬ ((p0_3 &&& (4 : Int32)) = (0 : Int32))))), .val (.ref b16), .unset, .unset, .unset, .unset, .unset, .unset, .unset] [(.ref b35)])) _
    refine XS.dup X35.here hx rfl (hb hby at_65) rfl rfl ?_
    show Steps p.tables e below (T35.setTop (mkF m 66 #[.val (.int p0_0), .val (.int p0_1), .val (.int p0_2), .val (.int p0_3), .val (.int (bI (¬ ((p0_3 &&& (1 : Int32)) = (0 : Int32))))), .val (.int (bI (¬ ((p0_3 &&& (2 : Int32)) = (0 : Int32))))), .val (.int (bI (¬ ((p0_3 &&& (4 : Int32)) = (0 : Int32))))), .val (.ref b16), .unset, .unset, .unset, .unset, .unset, .unset, .unset] [(.ref b35), (.ref b35)])) _
    refine XS.aload X35.here hx rfl (hb hby at_66) rfl rfl ?_
    show Steps p.tables e below (T35.setTop (mkF m 68 #[.val (.int p0_0), .val (.int p0_1), .val (.int p0_2), .val (.int p0_3), .val (.int (bI (¬ ((p0_3 &&& (1 : Int32)) = (0 : Int32))))), .val (.int (bI (¬ ((p0_3 &&& (2 : Int32)) = (0 : Int32))))), .val (.int (bI (¬ ((p0_3 &&& (4 : Int32)) = (0 : Int32))))), .val (.ref b16), .unset, .unset, .unset, .unset, .unset, .unset, .unset] [(.ref b16), (.ref b35), (.ref b35)])) _
    refine XS.iconst X35.here hx rfl (hb hby at_68) ?_
    show Steps p.tables e below (T35.setTop (mkF m 69 #[.val (.int p0_0), .val (.int p0_1), .val (.int p0_2), .val (.int p0_3), .val (.int (bI (¬ ((p0_3 &&& (1 : Int32)) = (0 : Int32))))), .val (.int (bI (¬ ((p0_3 &&& (2 : Int32)) = (0 : Int32))))), .val (.int (bI (¬ ((p0_3 &&& (4 : Int32)) = (0 : Int32))))), .val (.ref b16), .unset, .unset, .unset, .unset, .unset, .unset, .unset] [(.int (0 : Int32)), (.ref b16), (.ref b35), (.ref b35)])) _
    refine st43.trans ?_
    exact k)
  have f46 := f38.keep K43 (ninS ne36 nin0)
  have f47 := A35.keep K43
  have z48 := Nat.le_trans z39 K43.1
  obtain ⟨cq49, kq49, q49a, q49b, q49c⟩ := isOf hZ rfl r43_0
  obtain ⟨_, _, ⟨T49, L49, k49, n49⟩, -, X49, ⟨Lc49, hQ49, l49, y49, z49⟩, st49⟩ := X43.virtualBack hx (y := (⟨"com/example/libmosaic/libmosaic/encoding/ByteReader", "complement", "(Z)Lcom/example/libmosaic/libmosaic/encoding/ByteReader;"⟩ : MethodName)) (z := (⟨"com/example/libmosaic/libmosaic/encoding/ByteReader", "complement", "(Z)Lcom/example/libmosaic/libmosaic/encoding/ByteReader;"⟩ : MethodName)) hown (mvT hZ (hVV 14 _ rfl)) (mvT hZ (hVV 15 _ rfl)) (notFace_of_selects (args := #[]) (mvT hZ (hVV 17 _ rfl))) (mvT hZ (hVV 17 _ rfl)) (mvT hZ (hVV 16 _ rfl)) (by decide) (backOf (W := 0) (rm3 l Z a0 hw [] b35 (bI (¬ ((p0_3 &&& (1 : Int32)) = (0 : Int32)))) (.ref b16) (0 : Int32) (0 : Int32) T43.heap n0 z48 r43_0 r43_2 r43_3 r43_1 gz35) hZ (hVV 18 _ rfl) (hVV 3 _ rfl) (by decide) (by decide)) q49a q49c (g := (mkF m 78 #[.val (.int p0_0), .val (.int p0_1), .val (.int p0_2), .val (.int p0_3), .val (.int (bI (¬ ((p0_3 &&& (1 : Int32)) = (0 : Int32))))), .val (.int (bI (¬ ((p0_3 &&& (2 : Int32)) = (0 : Int32))))), .val (.int (bI (¬ ((p0_3 &&& (4 : Int32)) = (0 : Int32))))), .val (.ref b16), .val (.ref b35), .unset, .unset, .unset, .unset, .unset, .unset] [(.int (bI (¬ ((p0_3 &&& (1 : Int32)) = (0 : Int32))))), (.ref b35)])) rfl (by rw [hml]; rfl) (Steps.refl _) (argsL := [(.int (bI (¬ ((p0_3 &&& (1 : Int32)) = (0 : Int32)))))]) (rest := []) (lenOf pd_2 rfl) rfl (by show 2 * 0 + _ ≤ _; exact Nat.le_of_eq rfl) (hb hby at_78) (fun _ _ => ⟨rfl, rfl, (by decide : 2 + 0 ≤ _), (by decide : 6 + 0 ≤ _)⟩)
  dsimp only [Pt.U, Pt.locs, Pt.cells, Pt.slots] at X49 l49 y49 z49 st49 hQ49
  subst l49 y49 z49
  obtain ⟨rfl, N49q, K49, r49_0, r49_1, r49_2, r49_3⟩ := hQ49
  have N50 := Fr.app N44 N49q
  have pre51 : ∀ t, Steps p.tables e below (T49.setTop (mkF m 81 #[.val (.int p0_0), .val (.int p0_1), .val (.int p0_2), .val (.int p0_3), .val (.int (bI (¬ ((p0_3 &&& (1 : Int32)) = (0 : Int32))))), .val (.int (bI (¬ ((p0_3 &&& (2 : Int32)) = (0 : Int32))))), .val (.int (bI (¬ ((p0_3 &&& (4 : Int32)) = (0 : Int32))))), .val (.ref b16), .val (.ref b35), .unset, .unset, .unset, .unset, .unset, .unset] [(.ref b35)])) t → Steps p.tables e below (s₁.setTop (entryFrame m #[(.int p0_0), (.int p0_1), (.int p0_2), (.int p0_3)] maxLocals)) t := fun t k => pre45 t (by
    show Steps p.tables e below (T43.setTop (mkF m 72 #[.val (.int p0_0), .val (.int p0_1), .val (.int p0_2), .val (.int p0_3), .val (.int (bI (¬ ((p0_3 &&& (1 : Int32)) = (0 : Int32))))), .val (.int (bI (¬ ((p0_3 &&& (2 : Int32)) = (0 : Int32))))), .val (.int (bI (¬ ((p0_3 &&& (4 : Int32)) = (0 : Int32))))), .val (.ref b16), .unset, .unset, .unset, .unset, .unset, .unset, .unset] [(.ref b35)])) _
    refine XS.astore X43.here hx rfl (hb hby at_72) rfl rfl (l' := #[.val (.int p0_0), .val (.int p0_1), .val (.int p0_2), .val (.int p0_3), .val (.int (bI (¬ ((p0_3 &&& (1 : Int32)) = (0 : Int32))))), .val (.int (bI (¬ ((p0_3 &&& (2 : Int32)) = (0 : Int32))))), .val (.int (bI (¬ ((p0_3 &&& (4 : Int32)) = (0 : Int32))))), .val (.ref b16), .val (.ref b35), .unset, .unset, .unset, .unset, .unset, .unset]) rfl ?_
    show Steps p.tables e below (T43.setTop (mkF m 74 #[.val (.int p0_0), .val (.int p0_1), .val (.int p0_2), .val (.int p0_3), .val (.int (bI (¬ ((p0_3 &&& (1 : Int32)) = (0 : Int32))))), .val (.int (bI (¬ ((p0_3 &&& (2 : Int32)) = (0 : Int32))))), .val (.int (bI (¬ ((p0_3 &&& (4 : Int32)) = (0 : Int32))))), .val (.ref b16), .val (.ref b35), .unset, .unset, .unset, .unset, .unset, .unset] [])) _
    refine XS.aload X43.here hx rfl (hb hby at_74) rfl rfl ?_
    show Steps p.tables e below (T43.setTop (mkF m 76 #[.val (.int p0_0), .val (.int p0_1), .val (.int p0_2), .val (.int p0_3), .val (.int (bI (¬ ((p0_3 &&& (1 : Int32)) = (0 : Int32))))), .val (.int (bI (¬ ((p0_3 &&& (2 : Int32)) = (0 : Int32))))), .val (.int (bI (¬ ((p0_3 &&& (4 : Int32)) = (0 : Int32))))), .val (.ref b16), .val (.ref b35), .unset, .unset, .unset, .unset, .unset, .unset] [(.ref b35)])) _
    refine XS.iload X43.here hx rfl (hb hby at_76) rfl ?_
    show Steps p.tables e below (T43.setTop (mkF m 78 #[.val (.int p0_0), .val (.int p0_1), .val (.int p0_2), .val (.int p0_3), .val (.int (bI (¬ ((p0_3 &&& (1 : Int32)) = (0 : Int32))))), .val (.int (bI (¬ ((p0_3 &&& (2 : Int32)) = (0 : Int32))))), .val (.int (bI (¬ ((p0_3 &&& (4 : Int32)) = (0 : Int32))))), .val (.ref b16), .val (.ref b35), .unset, .unset, .unset, .unset, .unset, .unset] [(.int (bI (¬ ((p0_3 &&& (1 : Int32)) = (0 : Int32))))), (.ref b35)])) _
    refine st49.trans ?_
    exact k)
  have f52 := f46.keep K49 (ninS ne36 nin0)
  have f53 := r43_0.keep K49
  have z54 := Nat.le_trans z48 K49.1
  obtain ⟨cq55, kq55, q55a, q55b, q55c⟩ := isOf hZ rfl r49_0
  obtain ⟨_, _, ⟨T55, L55, k55, n55⟩, -, X55, ⟨Lc55, hQ55, l55, y55, z55⟩, st55⟩ := X49.virtualBack hx (y := (⟨"com/example/libmosaic/libmosaic/encoding/ByteReader", "position", "()I"⟩ : MethodName)) (z := (⟨"com/example/libmosaic/libmosaic/encoding/ByteReader", "position", "()I"⟩ : MethodName)) hown (mvT hZ (hVV 21 _ rfl)) (mvT hZ (hVV 22 _ rfl)) (notFace_of_selects (args := #[]) (mvT hZ (hVV 24 _ rfl))) (mvT hZ (hVV 24 _ rfl)) (mvT hZ (hVV 23 _ rfl)) (by decide) (backOf (W := 0) (rm4 l Z a0 hw [] b35 (0 : Int32) T49.heap n0 z54 r49_2) hZ (hVV 25 _ rfl) (hVV 3 _ rfl) (by decide) (by decide)) q55a q55c (g := (mkF m 94 #[.val (.int p0_0), .val (.int p0_1), .val (.int p0_2), .val (.int p0_3), .val (.int (bI (¬ ((p0_3 &&& (1 : Int32)) = (0 : Int32))))), .val (.int (bI (¬ ((p0_3 &&& (2 : Int32)) = (0 : Int32))))), .val (.int (bI (¬ ((p0_3 &&& (4 : Int32)) = (0 : Int32))))), .val (.ref b16), .val (.ref b35), .val (.ref b35), .unset, .unset, .unset, .unset, .unset] [(.ref b35)])) rfl (by rw [hml]; rfl) (Steps.refl _) (argsL := []) (rest := []) (lenOf pd_3 rfl) rfl (by show 2 * 0 + _ ≤ _; exact Nat.le_of_eq rfl) (hb hby at_94) (fun _ _ => ⟨rfl, rfl, (by decide : 2 + 0 ≤ _), (by decide : 6 + 0 ≤ _)⟩)
  dsimp only [Pt.U, Pt.locs, Pt.cells, Pt.slots] at X55 l55 y55 z55 st55 hQ55
  subst l55 y55 z55
  obtain ⟨rfl, N55q, e55⟩ := hQ55
  have N56 := Fr.app N50 N55q
  have pre57 : ∀ t, Steps p.tables e below (T55.setTop (mkF m 97 #[.val (.int p0_0), .val (.int p0_1), .val (.int p0_2), .val (.int p0_3), .val (.int (bI (¬ ((p0_3 &&& (1 : Int32)) = (0 : Int32))))), .val (.int (bI (¬ ((p0_3 &&& (2 : Int32)) = (0 : Int32))))), .val (.int (bI (¬ ((p0_3 &&& (4 : Int32)) = (0 : Int32))))), .val (.ref b16), .val (.ref b35), .val (.ref b35), .unset, .unset, .unset, .unset, .unset] [(.int (0 : Int32))])) t → Steps p.tables e below (s₁.setTop (entryFrame m #[(.int p0_0), (.int p0_1), (.int p0_2), (.int p0_3)] maxLocals)) t := fun t k => pre51 t (by
    show Steps p.tables e below (T49.setTop (mkF m 81 #[.val (.int p0_0), .val (.int p0_1), .val (.int p0_2), .val (.int p0_3), .val (.int (bI (¬ ((p0_3 &&& (1 : Int32)) = (0 : Int32))))), .val (.int (bI (¬ ((p0_3 &&& (2 : Int32)) = (0 : Int32))))), .val (.int (bI (¬ ((p0_3 &&& (4 : Int32)) = (0 : Int32))))), .val (.ref b16), .val (.ref b35), .unset, .unset, .unset, .unset, .unset, .unset] [(.ref b35)])) _
    refine XS.astore X49.here hx rfl (hb hby at_81) rfl rfl (l' := #[.val (.int p0_0), .val (.int p0_1), .val (.int p0_2), .val (.int p0_3), .val (.int (bI (¬ ((p0_3 &&& (1 : Int32)) = (0 : Int32))))), .val (.int (bI (¬ ((p0_3 &&& (2 : Int32)) = (0 : Int32))))), .val (.int (bI (¬ ((p0_3 &&& (4 : Int32)) = (0 : Int32))))), .val (.ref b16), .val (.ref b35), .val (.ref b35), .unset, .unset, .unset, .unset, .unset]) rfl ?_
    show Steps p.tables e below (T49.setTop (mkF m 83 #[.val (.int p0_0), .val (.int p0_1), .val (.int p0_2), .val (.int p0_3), .val (.int (bI (¬ ((p0_3 &&& (1 : Int32)) = (0 : Int32))))), .val (.int (bI (¬ ((p0_3 &&& (2 : Int32)) = (0 : Int32))))), .val (.int (bI (¬ ((p0_3 &&& (4 : Int32)) = (0 : Int32))))), .val (.ref b16), .val (.ref b35), .val (.ref b35), .unset, .unset, .unset, .unset, .unset] [])) _
    refine XS.aload X49.here hx rfl (hb hby at_83) rfl rfl ?_
    show Steps p.tables e below (T49.setTop (mkF m 85 #[.val (.int p0_0), .val (.int p0_1), .val (.int p0_2), .val (.int p0_3), .val (.int (bI (¬ ((p0_3 &&& (1 : Int32)) = (0 : Int32))))), .val (.int (bI (¬ ((p0_3 &&& (2 : Int32)) = (0 : Int32))))), .val (.int (bI (¬ ((p0_3 &&& (4 : Int32)) = (0 : Int32))))), .val (.ref b16), .val (.ref b35), .val (.ref b35), .unset, .unset, .unset, .unset, .unset] [(.ref b35)])) _
    refine XS.aload X49.here hx rfl (hb hby at_85) rfl rfl ?_
    show Steps p.tables e below (T49.setTop (mkF m 87 #[.val (.int p0_0), .val (.int p0_1), .val (.int p0_2), .val (.int p0_3), .val (.int (bI (¬ ((p0_3 &&& (1 : Int32)) = (0 : Int32))))), .val (.int (bI (¬ ((p0_3 &&& (2 : Int32)) = (0 : Int32))))), .val (.int (bI (¬ ((p0_3 &&& (4 : Int32)) = (0 : Int32))))), .val (.ref b16), .val (.ref b35), .val (.ref b35), .unset, .unset, .unset, .unset, .unset] [(.ref b35), (.ref b35)])) _
    refine Jvm.RoadKit.acmp (g := (mkF m 87 #[.val (.int p0_0), .val (.int p0_1), .val (.int p0_2), .val (.int p0_3), .val (.int (bI (¬ ((p0_3 &&& (1 : Int32)) = (0 : Int32))))), .val (.int (bI (¬ ((p0_3 &&& (2 : Int32)) = (0 : Int32))))), .val (.int (bI (¬ ((p0_3 &&& (4 : Int32)) = (0 : Int32))))), .val (.ref b16), .val (.ref b35), .val (.ref b35), .unset, .unset, .unset, .unset, .unset] [(.ref b35), (.ref b35)])) X49 hx rfl rfl rfl (pc0 := 87) (pc' := 92) (same := true) rfl (hb hby at_87) rfl (decide_eq_true rfl) (by decide) (by decide) ?_
    show Steps p.tables e below (T49.setTop (mkF m 92 #[.val (.int p0_0), .val (.int p0_1), .val (.int p0_2), .val (.int p0_3), .val (.int (bI (¬ ((p0_3 &&& (1 : Int32)) = (0 : Int32))))), .val (.int (bI (¬ ((p0_3 &&& (2 : Int32)) = (0 : Int32))))), .val (.int (bI (¬ ((p0_3 &&& (4 : Int32)) = (0 : Int32))))), .val (.ref b16), .val (.ref b35), .val (.ref b35), .unset, .unset, .unset, .unset, .unset] [])) _
    refine XS.aload X49.here hx rfl (hb hby at_92) rfl rfl ?_
    show Steps p.tables e below (T49.setTop (mkF m 94 #[.val (.int p0_0), .val (.int p0_1), .val (.int p0_2), .val (.int p0_3), .val (.int (bI (¬ ((p0_3 &&& (1 : Int32)) = (0 : Int32))))), .val (.int (bI (¬ ((p0_3 &&& (2 : Int32)) = (0 : Int32))))), .val (.int (bI (¬ ((p0_3 &&& (4 : Int32)) = (0 : Int32))))), .val (.ref b16), .val (.ref b35), .val (.ref b35), .unset, .unset, .unset, .unset, .unset] [(.ref b35)])) _
    refine st55.trans ?_
    exact k)
  obtain ⟨cq58, kq58, q58a, q58b, q58c⟩ := isOf hZ e55 r49_0
  obtain ⟨_, _, ⟨T58, L58, k58, n58⟩, -, X58, ⟨Lc58, hQ58, l58, y58, z58⟩, st58⟩ := X55.virtualBack hx (y := (⟨"com/example/libmosaic/libmosaic/encoding/ByteReader", "read", "()I"⟩ : MethodName)) (z := (⟨"com/example/libmosaic/libmosaic/encoding/ByteReader", "read", "()I"⟩ : MethodName)) hown (mvT hZ (hVV 26 _ rfl)) (mvT hZ (hVV 27 _ rfl)) (notFace_of_selects (args := #[]) (mvT hZ (hVV 29 _ rfl))) (mvT hZ (hVV 29 _ rfl)) (mvT hZ (hVV 28 _ rfl)) (by decide) (backOf (W := 0) (rm5_0 l Z a0 hw [] b35 b16 k16 (((p0_0.toInt8.toInt32)).toInt8.toInt32) (((p0_1.toInt8.toInt32)).toInt8.toInt32) (((p0_2.toInt8.toInt32)).toInt8.toInt32) (if (bI (¬ ((p0_3 &&& (1 : Int32)) = (0 : Int32)))) = (0 : Int32) then (0 : Int32) else (255 : Int32)) T49.heap n0 z54 r49_1 r49_2 f52 ne36 r49_0 r49_3 gz35) hZ (hVV 30 _ rfl) (hVV 3 _ rfl) (by decide) (by decide)) q58a q58c (g := (mkF m 104 #[.val (.int p0_0), .val (.int p0_1), .val (.int p0_2), .val (.int p0_3), .val (.int (bI (¬ ((p0_3 &&& (1 : Int32)) = (0 : Int32))))), .val (.int (bI (¬ ((p0_3 &&& (2 : Int32)) = (0 : Int32))))), .val (.int (bI (¬ ((p0_3 &&& (4 : Int32)) = (0 : Int32))))), .val (.ref b16), .val (.ref b35), .val (.ref b35), .unset, .unset, .unset, .unset, .unset] [(.ref b35)])) rfl (by rw [hml]; rfl) (Steps.refl _) (argsL := []) (rest := []) (lenOf pd_3 rfl) rfl (by show 2 * 0 + _ ≤ _; exact Nat.le_of_eq rfl) (hb hby at_104) (fun _ _ => ⟨rfl, e55, (by decide : 2 + 0 ≤ _), (by decide : 6 + 0 ≤ _)⟩)
  dsimp only [Pt.U, Pt.locs, Pt.cells, Pt.slots] at X58 l58 y58 z58 st58 hQ58
  subst l58 y58 z58
  obtain ⟨rfl, N58q, K58, r58_0, r58_1, r58_2, r58_3⟩ := hQ58
  have N59 := Fr.app N56 N58q
  have pre60 : ∀ t, Steps p.tables e below (T58.setTop (mkF m 107 #[.val (.int p0_0), .val (.int p0_1), .val (.int p0_2), .val (.int p0_3), .val (.int (bI (¬ ((p0_3 &&& (1 : Int32)) = (0 : Int32))))), .val (.int (bI (¬ ((p0_3 &&& (2 : Int32)) = (0 : Int32))))), .val (.int (bI (¬ ((p0_3 &&& (4 : Int32)) = (0 : Int32))))), .val (.ref b16), .val (.ref b35), .val (.ref b35), .unset, .unset, .unset, .unset, .unset] [(.int ((((p0_0.toInt8.toInt32)).toInt8.toInt32 &&& (255 : Int32)) ^^^ (if (bI (¬ ((p0_3 &&& (1 : Int32)) = (0 : Int32)))) = (0 : Int32) then (0 : Int32) else (255 : Int32))))])) t → Steps p.tables e below (s₁.setTop (entryFrame m #[(.int p0_0), (.int p0_1), (.int p0_2), (.int p0_3)] maxLocals)) t := fun t k => pre57 t (by
    show Steps p.tables e below (T55.setTop (mkF m 97 #[.val (.int p0_0), .val (.int p0_1), .val (.int p0_2), .val (.int p0_3), .val (.int (bI (¬ ((p0_3 &&& (1 : Int32)) = (0 : Int32))))), .val (.int (bI (¬ ((p0_3 &&& (2 : Int32)) = (0 : Int32))))), .val (.int (bI (¬ ((p0_3 &&& (4 : Int32)) = (0 : Int32))))), .val (.ref b16), .val (.ref b35), .val (.ref b35), .unset, .unset, .unset, .unset, .unset] [(.int (0 : Int32))])) _
    refine XS.ifYes X55.here hx rfl (pc0 := 97) (pc' := 102) rfl (hb hby at_97) rfl ((if0 _ _).trans (teq (by decide : (0 : Int32) = (0 : Int32))).1) (by decide) (by decide) ?_
    show Steps p.tables e below (T55.setTop (mkF m 102 #[.val (.int p0_0), .val (.int p0_1), .val (.int p0_2), .val (.int p0_3), .val (.int (bI (¬ ((p0_3 &&& (1 : Int32)) = (0 : Int32))))), .val (.int (bI (¬ ((p0_3 &&& (2 : Int32)) = (0 : Int32))))), .val (.int (bI (¬ ((p0_3 &&& (4 : Int32)) = (0 : Int32))))), .val (.ref b16), .val (.ref b35), .val (.ref b35), .unset, .unset, .unset, .unset, .unset] [])) _
    refine XS.aload X55.here hx rfl (hb hby at_102) rfl rfl ?_
    show Steps p.tables e below (T55.setTop (mkF m 104 #[.val (.int p0_0), .val (.int p0_1), .val (.int p0_2), .val (.int p0_3), .val (.int (bI (¬ ((p0_3 &&& (1 : Int32)) = (0 : Int32))))), .val (.int (bI (¬ ((p0_3 &&& (2 : Int32)) = (0 : Int32))))), .val (.int (bI (¬ ((p0_3 &&& (4 : Int32)) = (0 : Int32))))), .val (.ref b16), .val (.ref b35), .val (.ref b35), .unset, .unset, .unset, .unset, .unset] [(.ref b35)])) _
    refine st58.trans ?_
    exact k)
  have f61 := f52.keep K58 (ninS ne36 nin0)
  have f62 := r49_0.keep K58
  have z63 := Nat.le_trans z54 K58.1
  obtain ⟨_, _, ⟨T64, L64, k64, n64⟩, -, X64, ⟨Lc64, hQ64, l64, y64, z64⟩, st64⟩ := Jvm.LawKit.callS X58 hx (y := (⟨"com/example/libmosaic/libmosaic/encoding/ByteReaderComplementPinLaw", "expect", "(IZ)I"⟩ : MethodName)) hown (mvT hZ (hVV 35 _ rfl)) (mvT hZ (hVV 36 _ rfl)) (mvT hZ (hVV 37 _ rfl)) (mvT hZ (hVV 38 _ rfl)) (by decide) (backOf (W := 1) (rm7 l Z a0 hw [] p0_0 (bI (¬ ((p0_3 &&& (1 : Int32)) = (0 : Int32)))) T58.heap n0 z63 ) hZ (hVV 38 _ rfl) (hVV 37 _ rfl) (by decide) (by decide)) (g := (mkF m 114 #[.val (.int p0_0), .val (.int p0_1), .val (.int p0_2), .val (.int p0_3), .val (.int (bI (¬ ((p0_3 &&& (1 : Int32)) = (0 : Int32))))), .val (.int (bI (¬ ((p0_3 &&& (2 : Int32)) = (0 : Int32))))), .val (.int (bI (¬ ((p0_3 &&& (4 : Int32)) = (0 : Int32))))), .val (.ref b16), .val (.ref b35), .val (.ref b35), .val (.int ((((p0_0.toInt8.toInt32)).toInt8.toInt32 &&& (255 : Int32)) ^^^ (if (bI (¬ ((p0_3 &&& (1 : Int32)) = (0 : Int32)))) = (0 : Int32) then (0 : Int32) else (255 : Int32)))), .unset, .unset, .unset, .unset] [(.int (bI (¬ ((p0_3 &&& (1 : Int32)) = (0 : Int32))))), (.int p0_0), (.int ((((p0_0.toInt8.toInt32)).toInt8.toInt32 &&& (255 : Int32)) ^^^ (if (bI (¬ ((p0_3 &&& (1 : Int32)) = (0 : Int32)))) = (0 : Int32) then (0 : Int32) else (255 : Int32))))])) rfl (by rw [hml]; rfl) (argsL := [(.int p0_0), (.int (bI (¬ ((p0_3 &&& (1 : Int32)) = (0 : Int32)))))]) (rest := [(.int ((((p0_0.toInt8.toInt32)).toInt8.toInt32 &&& (255 : Int32)) ^^^ (if (bI (¬ ((p0_3 &&& (1 : Int32)) = (0 : Int32)))) = (0 : Int32) then (0 : Int32) else (255 : Int32))))]) (lenOf pd_4 rfl) rfl (by show 2 * 0 + _ ≤ _; exact Nat.le_of_eq rfl) (hb hby at_114) (fun _ _ => ⟨rfl, rfl, (by decide : 2 + 0 ≤ _), (by decide : 6 + 0 ≤ _)⟩)
  dsimp only [Pt.U, Pt.locs, Pt.cells, Pt.slots] at X64 l64 y64 z64 st64 hQ64
  subst l64 y64 z64
  obtain ⟨rfl, N64q, e64⟩ := hQ64
  have N65 := Fr.app N59 N64q
  have pre66 : ∀ t, Steps p.tables e below (T64.setTop (mkF m 117 #[.val (.int p0_0), .val (.int p0_1), .val (.int p0_2), .val (.int p0_3), .val (.int (bI (¬ ((p0_3 &&& (1 : Int32)) = (0 : Int32))))), .val (.int (bI (¬ ((p0_3 &&& (2 : Int32)) = (0 : Int32))))), .val (.int (bI (¬ ((p0_3 &&& (4 : Int32)) = (0 : Int32))))), .val (.ref b16), .val (.ref b35), .val (.ref b35), .val (.int ((((p0_0.toInt8.toInt32)).toInt8.toInt32 &&& (255 : Int32)) ^^^ (if (bI (¬ ((p0_3 &&& (1 : Int32)) = (0 : Int32)))) = (0 : Int32) then (0 : Int32) else (255 : Int32)))), .unset, .unset, .unset, .unset] [(.int (if (bI (¬ ((p0_3 &&& (1 : Int32)) = (0 : Int32)))) = (0 : Int32) then (p0_0 &&& (255 : Int32)) else ((255 : Int32) - (p0_0 &&& (255 : Int32))))), (.int ((((p0_0.toInt8.toInt32)).toInt8.toInt32 &&& (255 : Int32)) ^^^ (if (bI (¬ ((p0_3 &&& (1 : Int32)) = (0 : Int32)))) = (0 : Int32) then (0 : Int32) else (255 : Int32))))])) t → Steps p.tables e below (s₁.setTop (entryFrame m #[(.int p0_0), (.int p0_1), (.int p0_2), (.int p0_3)] maxLocals)) t := fun t k => pre60 t (by
    show Steps p.tables e below (T58.setTop (mkF m 107 #[.val (.int p0_0), .val (.int p0_1), .val (.int p0_2), .val (.int p0_3), .val (.int (bI (¬ ((p0_3 &&& (1 : Int32)) = (0 : Int32))))), .val (.int (bI (¬ ((p0_3 &&& (2 : Int32)) = (0 : Int32))))), .val (.int (bI (¬ ((p0_3 &&& (4 : Int32)) = (0 : Int32))))), .val (.ref b16), .val (.ref b35), .val (.ref b35), .unset, .unset, .unset, .unset, .unset] [(.int ((((p0_0.toInt8.toInt32)).toInt8.toInt32 &&& (255 : Int32)) ^^^ (if (bI (¬ ((p0_3 &&& (1 : Int32)) = (0 : Int32)))) = (0 : Int32) then (0 : Int32) else (255 : Int32))))])) _
    refine XS.istore X58.here hx rfl (hb hby at_107) rfl (l' := #[.val (.int p0_0), .val (.int p0_1), .val (.int p0_2), .val (.int p0_3), .val (.int (bI (¬ ((p0_3 &&& (1 : Int32)) = (0 : Int32))))), .val (.int (bI (¬ ((p0_3 &&& (2 : Int32)) = (0 : Int32))))), .val (.int (bI (¬ ((p0_3 &&& (4 : Int32)) = (0 : Int32))))), .val (.ref b16), .val (.ref b35), .val (.ref b35), .val (.int ((((p0_0.toInt8.toInt32)).toInt8.toInt32 &&& (255 : Int32)) ^^^ (if (bI (¬ ((p0_3 &&& (1 : Int32)) = (0 : Int32)))) = (0 : Int32) then (0 : Int32) else (255 : Int32)))), .unset, .unset, .unset, .unset]) rfl ?_
    show Steps p.tables e below (T58.setTop (mkF m 109 #[.val (.int p0_0), .val (.int p0_1), .val (.int p0_2), .val (.int p0_3), .val (.int (bI (¬ ((p0_3 &&& (1 : Int32)) = (0 : Int32))))), .val (.int (bI (¬ ((p0_3 &&& (2 : Int32)) = (0 : Int32))))), .val (.int (bI (¬ ((p0_3 &&& (4 : Int32)) = (0 : Int32))))), .val (.ref b16), .val (.ref b35), .val (.ref b35), .val (.int ((((p0_0.toInt8.toInt32)).toInt8.toInt32 &&& (255 : Int32)) ^^^ (if (bI (¬ ((p0_3 &&& (1 : Int32)) = (0 : Int32)))) = (0 : Int32) then (0 : Int32) else (255 : Int32)))), .unset, .unset, .unset, .unset] [])) _
    refine XS.iload X58.here hx rfl (hb hby at_109) rfl ?_
    show Steps p.tables e below (T58.setTop (mkF m 111 #[.val (.int p0_0), .val (.int p0_1), .val (.int p0_2), .val (.int p0_3), .val (.int (bI (¬ ((p0_3 &&& (1 : Int32)) = (0 : Int32))))), .val (.int (bI (¬ ((p0_3 &&& (2 : Int32)) = (0 : Int32))))), .val (.int (bI (¬ ((p0_3 &&& (4 : Int32)) = (0 : Int32))))), .val (.ref b16), .val (.ref b35), .val (.ref b35), .val (.int ((((p0_0.toInt8.toInt32)).toInt8.toInt32 &&& (255 : Int32)) ^^^ (if (bI (¬ ((p0_3 &&& (1 : Int32)) = (0 : Int32)))) = (0 : Int32) then (0 : Int32) else (255 : Int32)))), .unset, .unset, .unset, .unset] [(.int ((((p0_0.toInt8.toInt32)).toInt8.toInt32 &&& (255 : Int32)) ^^^ (if (bI (¬ ((p0_3 &&& (1 : Int32)) = (0 : Int32)))) = (0 : Int32) then (0 : Int32) else (255 : Int32))))])) _
    refine XS.iloadN X58.here hx rfl (hb hby at_111) rfl ?_
    show Steps p.tables e below (T58.setTop (mkF m 112 #[.val (.int p0_0), .val (.int p0_1), .val (.int p0_2), .val (.int p0_3), .val (.int (bI (¬ ((p0_3 &&& (1 : Int32)) = (0 : Int32))))), .val (.int (bI (¬ ((p0_3 &&& (2 : Int32)) = (0 : Int32))))), .val (.int (bI (¬ ((p0_3 &&& (4 : Int32)) = (0 : Int32))))), .val (.ref b16), .val (.ref b35), .val (.ref b35), .val (.int ((((p0_0.toInt8.toInt32)).toInt8.toInt32 &&& (255 : Int32)) ^^^ (if (bI (¬ ((p0_3 &&& (1 : Int32)) = (0 : Int32)))) = (0 : Int32) then (0 : Int32) else (255 : Int32)))), .unset, .unset, .unset, .unset] [(.int p0_0), (.int ((((p0_0.toInt8.toInt32)).toInt8.toInt32 &&& (255 : Int32)) ^^^ (if (bI (¬ ((p0_3 &&& (1 : Int32)) = (0 : Int32)))) = (0 : Int32) then (0 : Int32) else (255 : Int32))))])) _
    refine XS.iload X58.here hx rfl (hb hby at_112) rfl ?_
    show Steps p.tables e below (T58.setTop (mkF m 114 #[.val (.int p0_0), .val (.int p0_1), .val (.int p0_2), .val (.int p0_3), .val (.int (bI (¬ ((p0_3 &&& (1 : Int32)) = (0 : Int32))))), .val (.int (bI (¬ ((p0_3 &&& (2 : Int32)) = (0 : Int32))))), .val (.int (bI (¬ ((p0_3 &&& (4 : Int32)) = (0 : Int32))))), .val (.ref b16), .val (.ref b35), .val (.ref b35), .val (.int ((((p0_0.toInt8.toInt32)).toInt8.toInt32 &&& (255 : Int32)) ^^^ (if (bI (¬ ((p0_3 &&& (1 : Int32)) = (0 : Int32)))) = (0 : Int32) then (0 : Int32) else (255 : Int32)))), .unset, .unset, .unset, .unset] [(.int (bI (¬ ((p0_3 &&& (1 : Int32)) = (0 : Int32))))), (.int p0_0), (.int ((((p0_0.toInt8.toInt32)).toInt8.toInt32 &&& (255 : Int32)) ^^^ (if (bI (¬ ((p0_3 &&& (1 : Int32)) = (0 : Int32)))) = (0 : Int32) then (0 : Int32) else (255 : Int32))))])) _
    refine st64 _ ?_
    exact k)
  have hd67 : ((((p0_0.toInt8.toInt32)).toInt8.toInt32 &&& (255 : Int32)) ^^^ (if (bI (¬ ((p0_3 &&& (1 : Int32)) = (0 : Int32)))) = (0 : Int32) then (0 : Int32) else (255 : Int32))) = (if (bI (¬ ((p0_3 &&& (1 : Int32)) = (0 : Int32)))) = (0 : Int32) then (p0_0 &&& (255 : Int32)) else ((255 : Int32) - (p0_0 &&& (255 : Int32)))) := by
    exact own_fin _ _
  obtain ⟨cq68, kq68, q68a, q68b, q68c⟩ := isOf hZ e64 r58_0
  obtain ⟨_, _, ⟨T68, L68, k68, n68⟩, -, X68, ⟨Lc68, hQ68, l68, y68, z68⟩, st68⟩ := X64.virtualBack hx (y := (⟨"com/example/libmosaic/libmosaic/encoding/ByteReader", "complement", "(Z)Lcom/example/libmosaic/libmosaic/encoding/ByteReader;"⟩ : MethodName)) (z := (⟨"com/example/libmosaic/libmosaic/encoding/ByteReader", "complement", "(Z)Lcom/example/libmosaic/libmosaic/encoding/ByteReader;"⟩ : MethodName)) hown (mvT hZ (hVV 14 _ rfl)) (mvT hZ (hVV 15 _ rfl)) (notFace_of_selects (args := #[]) (mvT hZ (hVV 17 _ rfl))) (mvT hZ (hVV 17 _ rfl)) (mvT hZ (hVV 16 _ rfl)) (by decide) (backOf (W := 0) (rm3 l Z a0 hw [] b35 (bI (¬ ((p0_3 &&& (2 : Int32)) = (0 : Int32)))) (.ref b16) (1 : Int32) (if (bI (¬ ((p0_3 &&& (1 : Int32)) = (0 : Int32)))) = (0 : Int32) then (0 : Int32) else (255 : Int32)) T58.heap n0 z63 r58_0 r58_1 r58_3 r58_2 gz35) hZ (hVV 18 _ rfl) (hVV 3 _ rfl) (by decide) (by decide)) q68a q68c (g := (mkF m 126 #[.val (.int p0_0), .val (.int p0_1), .val (.int p0_2), .val (.int p0_3), .val (.int (bI (¬ ((p0_3 &&& (1 : Int32)) = (0 : Int32))))), .val (.int (bI (¬ ((p0_3 &&& (2 : Int32)) = (0 : Int32))))), .val (.int (bI (¬ ((p0_3 &&& (4 : Int32)) = (0 : Int32))))), .val (.ref b16), .val (.ref b35), .val (.ref b35), .val (.int ((((p0_0.toInt8.toInt32)).toInt8.toInt32 &&& (255 : Int32)) ^^^ (if (bI (¬ ((p0_3 &&& (1 : Int32)) = (0 : Int32)))) = (0 : Int32) then (0 : Int32) else (255 : Int32)))), .unset, .unset, .unset, .unset] [(.int (bI (¬ ((p0_3 &&& (2 : Int32)) = (0 : Int32))))), (.ref b35)])) rfl (by rw [hml]; rfl) (Steps.refl _) (argsL := [(.int (bI (¬ ((p0_3 &&& (2 : Int32)) = (0 : Int32)))))]) (rest := []) (lenOf pd_2 rfl) rfl (by show 2 * 0 + _ ≤ _; exact Nat.le_of_eq rfl) (hb hby at_126) (fun _ _ => ⟨rfl, e64, (by decide : 2 + 0 ≤ _), (by decide : 6 + 0 ≤ _)⟩)
  dsimp only [Pt.U, Pt.locs, Pt.cells, Pt.slots] at X68 l68 y68 z68 st68 hQ68
  subst l68 y68 z68
  obtain ⟨rfl, N68q, K68, r68_0, r68_1, r68_2, r68_3⟩ := hQ68
  have N69 := Fr.app N65 N68q
  have pre70 : ∀ t, Steps p.tables e below (T68.setTop (mkF m 129 #[.val (.int p0_0), .val (.int p0_1), .val (.int p0_2), .val (.int p0_3), .val (.int (bI (¬ ((p0_3 &&& (1 : Int32)) = (0 : Int32))))), .val (.int (bI (¬ ((p0_3 &&& (2 : Int32)) = (0 : Int32))))), .val (.int (bI (¬ ((p0_3 &&& (4 : Int32)) = (0 : Int32))))), .val (.ref b16), .val (.ref b35), .val (.ref b35), .val (.int ((((p0_0.toInt8.toInt32)).toInt8.toInt32 &&& (255 : Int32)) ^^^ (if (bI (¬ ((p0_3 &&& (1 : Int32)) = (0 : Int32)))) = (0 : Int32) then (0 : Int32) else (255 : Int32)))), .unset, .unset, .unset, .unset] [(.ref b35)])) t → Steps p.tables e below (s₁.setTop (entryFrame m #[(.int p0_0), (.int p0_1), (.int p0_2), (.int p0_3)] maxLocals)) t := fun t k => pre66 t (by
    show Steps p.tables e below (T64.setTop (mkF m 117 #[.val (.int p0_0), .val (.int p0_1), .val (.int p0_2), .val (.int p0_3), .val (.int (bI (¬ ((p0_3 &&& (1 : Int32)) = (0 : Int32))))), .val (.int (bI (¬ ((p0_3 &&& (2 : Int32)) = (0 : Int32))))), .val (.int (bI (¬ ((p0_3 &&& (4 : Int32)) = (0 : Int32))))), .val (.ref b16), .val (.ref b35), .val (.ref b35), .val (.int ((((p0_0.toInt8.toInt32)).toInt8.toInt32 &&& (255 : Int32)) ^^^ (if (bI (¬ ((p0_3 &&& (1 : Int32)) = (0 : Int32)))) = (0 : Int32) then (0 : Int32) else (255 : Int32)))), .unset, .unset, .unset, .unset] [(.int (if (bI (¬ ((p0_3 &&& (1 : Int32)) = (0 : Int32)))) = (0 : Int32) then (p0_0 &&& (255 : Int32)) else ((255 : Int32) - (p0_0 &&& (255 : Int32))))), (.int ((((p0_0.toInt8.toInt32)).toInt8.toInt32 &&& (255 : Int32)) ^^^ (if (bI (¬ ((p0_3 &&& (1 : Int32)) = (0 : Int32)))) = (0 : Int32) then (0 : Int32) else (255 : Int32))))])) _
    refine XS.icmpYes X64.here hx rfl (pc0 := 117) (pc' := 122) rfl (hb hby at_117) rfl (teq hd67).1 (by decide) (by decide) ?_
    show Steps p.tables e below (T64.setTop (mkF m 122 #[.val (.int p0_0), .val (.int p0_1), .val (.int p0_2), .val (.int p0_3), .val (.int (bI (¬ ((p0_3 &&& (1 : Int32)) = (0 : Int32))))), .val (.int (bI (¬ ((p0_3 &&& (2 : Int32)) = (0 : Int32))))), .val (.int (bI (¬ ((p0_3 &&& (4 : Int32)) = (0 : Int32))))), .val (.ref b16), .val (.ref b35), .val (.ref b35), .val (.int ((((p0_0.toInt8.toInt32)).toInt8.toInt32 &&& (255 : Int32)) ^^^ (if (bI (¬ ((p0_3 &&& (1 : Int32)) = (0 : Int32)))) = (0 : Int32) then (0 : Int32) else (255 : Int32)))), .unset, .unset, .unset, .unset] [])) _
    refine XS.aload X64.here hx rfl (hb hby at_122) rfl rfl ?_
    show Steps p.tables e below (T64.setTop (mkF m 124 #[.val (.int p0_0), .val (.int p0_1), .val (.int p0_2), .val (.int p0_3), .val (.int (bI (¬ ((p0_3 &&& (1 : Int32)) = (0 : Int32))))), .val (.int (bI (¬ ((p0_3 &&& (2 : Int32)) = (0 : Int32))))), .val (.int (bI (¬ ((p0_3 &&& (4 : Int32)) = (0 : Int32))))), .val (.ref b16), .val (.ref b35), .val (.ref b35), .val (.int ((((p0_0.toInt8.toInt32)).toInt8.toInt32 &&& (255 : Int32)) ^^^ (if (bI (¬ ((p0_3 &&& (1 : Int32)) = (0 : Int32)))) = (0 : Int32) then (0 : Int32) else (255 : Int32)))), .unset, .unset, .unset, .unset] [(.ref b35)])) _
    refine XS.iload X64.here hx rfl (hb hby at_124) rfl ?_
    show Steps p.tables e below (T64.setTop (mkF m 126 #[.val (.int p0_0), .val (.int p0_1), .val (.int p0_2), .val (.int p0_3), .val (.int (bI (¬ ((p0_3 &&& (1 : Int32)) = (0 : Int32))))), .val (.int (bI (¬ ((p0_3 &&& (2 : Int32)) = (0 : Int32))))), .val (.int (bI (¬ ((p0_3 &&& (4 : Int32)) = (0 : Int32))))), .val (.ref b16), .val (.ref b35), .val (.ref b35), .val (.int ((((p0_0.toInt8.toInt32)).toInt8.toInt32 &&& (255 : Int32)) ^^^ (if (bI (¬ ((p0_3 &&& (1 : Int32)) = (0 : Int32)))) = (0 : Int32) then (0 : Int32) else (255 : Int32)))), .unset, .unset, .unset, .unset] [(.int (bI (¬ ((p0_3 &&& (2 : Int32)) = (0 : Int32))))), (.ref b35)])) _
    refine st68.trans ?_
    exact k)
  have f71 := f61.keep K68 (ninS ne36 nin0)
  have f72 := r58_0.keep K68
  have z73 := Nat.le_trans z63 K68.1
  obtain ⟨cq74, kq74, q74a, q74b, q74c⟩ := isOf hZ rfl r68_0
  obtain ⟨_, _, ⟨T74, L74, k74, n74⟩, -, X74, ⟨Lc74, hQ74, l74, y74, z74⟩, st74⟩ := X68.virtualBack hx (y := (⟨"com/example/libmosaic/libmosaic/encoding/ByteReader", "read", "()I"⟩ : MethodName)) (z := (⟨"com/example/libmosaic/libmosaic/encoding/ByteReader", "read", "()I"⟩ : MethodName)) hown (mvT hZ (hVV 26 _ rfl)) (mvT hZ (hVV 27 _ rfl)) (notFace_of_selects (args := #[]) (mvT hZ (hVV 29 _ rfl))) (mvT hZ (hVV 29 _ rfl)) (mvT hZ (hVV 28 _ rfl)) (by decide) (backOf (W := 0) (rm5_1 l Z a0 hw [] b35 b16 k16 (((p0_0.toInt8.toInt32)).toInt8.toInt32) (((p0_1.toInt8.toInt32)).toInt8.toInt32) (((p0_2.toInt8.toInt32)).toInt8.toInt32) (if (bI (¬ ((p0_3 &&& (2 : Int32)) = (0 : Int32)))) = (0 : Int32) then (0 : Int32) else (255 : Int32)) T68.heap n0 z73 r68_1 r68_2 f71 ne36 r68_0 r68_3 gz35) hZ (hVV 30 _ rfl) (hVV 3 _ rfl) (by decide) (by decide)) q74a q74c (g := (mkF m 142 #[.val (.int p0_0), .val (.int p0_1), .val (.int p0_2), .val (.int p0_3), .val (.int (bI (¬ ((p0_3 &&& (1 : Int32)) = (0 : Int32))))), .val (.int (bI (¬ ((p0_3 &&& (2 : Int32)) = (0 : Int32))))), .val (.int (bI (¬ ((p0_3 &&& (4 : Int32)) = (0 : Int32))))), .val (.ref b16), .val (.ref b35), .val (.ref b35), .val (.int ((((p0_0.toInt8.toInt32)).toInt8.toInt32 &&& (255 : Int32)) ^^^ (if (bI (¬ ((p0_3 &&& (1 : Int32)) = (0 : Int32)))) = (0 : Int32) then (0 : Int32) else (255 : Int32)))), .val (.ref b35), .unset, .unset, .unset] [(.ref b35)])) rfl (by rw [hml]; rfl) (Steps.refl _) (argsL := []) (rest := []) (lenOf pd_3 rfl) rfl (by show 2 * 0 + _ ≤ _; exact Nat.le_of_eq rfl) (hb hby at_142) (fun _ _ => ⟨rfl, rfl, (by decide : 2 + 0 ≤ _), (by decide : 6 + 0 ≤ _)⟩)
  dsimp only [Pt.U, Pt.locs, Pt.cells, Pt.slots] at X74 l74 y74 z74 st74 hQ74
  subst l74 y74 z74
  obtain ⟨rfl, N74q, K74, r74_0, r74_1, r74_2, r74_3⟩ := hQ74
  have N75 := Fr.app N69 N74q
  have pre76 : ∀ t, Steps p.tables e below (T74.setTop (mkF m 145 #[.val (.int p0_0), .val (.int p0_1), .val (.int p0_2), .val (.int p0_3), .val (.int (bI (¬ ((p0_3 &&& (1 : Int32)) = (0 : Int32))))), .val (.int (bI (¬ ((p0_3 &&& (2 : Int32)) = (0 : Int32))))), .val (.int (bI (¬ ((p0_3 &&& (4 : Int32)) = (0 : Int32))))), .val (.ref b16), .val (.ref b35), .val (.ref b35), .val (.int ((((p0_0.toInt8.toInt32)).toInt8.toInt32 &&& (255 : Int32)) ^^^ (if (bI (¬ ((p0_3 &&& (1 : Int32)) = (0 : Int32)))) = (0 : Int32) then (0 : Int32) else (255 : Int32)))), .val (.ref b35), .unset, .unset, .unset] [(.int ((((p0_1.toInt8.toInt32)).toInt8.toInt32 &&& (255 : Int32)) ^^^ (if (bI (¬ ((p0_3 &&& (2 : Int32)) = (0 : Int32)))) = (0 : Int32) then (0 : Int32) else (255 : Int32))))])) t → Steps p.tables e below (s₁.setTop (entryFrame m #[(.int p0_0), (.int p0_1), (.int p0_2), (.int p0_3)] maxLocals)) t := fun t k => pre70 t (by
    show Steps p.tables e below (T68.setTop (mkF m 129 #[.val (.int p0_0), .val (.int p0_1), .val (.int p0_2), .val (.int p0_3), .val (.int (bI (¬ ((p0_3 &&& (1 : Int32)) = (0 : Int32))))), .val (.int (bI (¬ ((p0_3 &&& (2 : Int32)) = (0 : Int32))))), .val (.int (bI (¬ ((p0_3 &&& (4 : Int32)) = (0 : Int32))))), .val (.ref b16), .val (.ref b35), .val (.ref b35), .val (.int ((((p0_0.toInt8.toInt32)).toInt8.toInt32 &&& (255 : Int32)) ^^^ (if (bI (¬ ((p0_3 &&& (1 : Int32)) = (0 : Int32)))) = (0 : Int32) then (0 : Int32) else (255 : Int32)))), .unset, .unset, .unset, .unset] [(.ref b35)])) _
    refine XS.astore X68.here hx rfl (hb hby at_129) rfl rfl (l' := #[.val (.int p0_0), .val (.int p0_1), .val (.int p0_2), .val (.int p0_3), .val (.int (bI (¬ ((p0_3 &&& (1 : Int32)) = (0 : Int32))))), .val (.int (bI (¬ ((p0_3 &&& (2 : Int32)) = (0 : Int32))))), .val (.int (bI (¬ ((p0_3 &&& (4 : Int32)) = (0 : Int32))))), .val (.ref b16), .val (.ref b35), .val (.ref b35), .val (.int ((((p0_0.toInt8.toInt32)).toInt8.toInt32 &&& (255 : Int32)) ^^^ (if (bI (¬ ((p0_3 &&& (1 : Int32)) = (0 : Int32)))) = (0 : Int32) then (0 : Int32) else (255 : Int32)))), .val (.ref b35), .unset, .unset, .unset]) rfl ?_
    show Steps p.tables e below (T68.setTop (mkF m 131 #[.val (.int p0_0), .val (.int p0_1), .val (.int p0_2), .val (.int p0_3), .val (.int (bI (¬ ((p0_3 &&& (1 : Int32)) = (0 : Int32))))), .val (.int (bI (¬ ((p0_3 &&& (2 : Int32)) = (0 : Int32))))), .val (.int (bI (¬ ((p0_3 &&& (4 : Int32)) = (0 : Int32))))), .val (.ref b16), .val (.ref b35), .val (.ref b35), .val (.int ((((p0_0.toInt8.toInt32)).toInt8.toInt32 &&& (255 : Int32)) ^^^ (if (bI (¬ ((p0_3 &&& (1 : Int32)) = (0 : Int32)))) = (0 : Int32) then (0 : Int32) else (255 : Int32)))), .val (.ref b35), .unset, .unset, .unset] [])) _
    refine XS.aload X68.here hx rfl (hb hby at_131) rfl rfl ?_
    show Steps p.tables e below (T68.setTop (mkF m 133 #[.val (.int p0_0), .val (.int p0_1), .val (.int p0_2), .val (.int p0_3), .val (.int (bI (¬ ((p0_3 &&& (1 : Int32)) = (0 : Int32))))), .val (.int (bI (¬ ((p0_3 &&& (2 : Int32)) = (0 : Int32))))), .val (.int (bI (¬ ((p0_3 &&& (4 : Int32)) = (0 : Int32))))), .val (.ref b16), .val (.ref b35), .val (.ref b35), .val (.int ((((p0_0.toInt8.toInt32)).toInt8.toInt32 &&& (255 : Int32)) ^^^ (if (bI (¬ ((p0_3 &&& (1 : Int32)) = (0 : Int32)))) = (0 : Int32) then (0 : Int32) else (255 : Int32)))), .val (.ref b35), .unset, .unset, .unset] [(.ref b35)])) _
    refine XS.aload X68.here hx rfl (hb hby at_133) rfl rfl ?_
    show Steps p.tables e below (T68.setTop (mkF m 135 #[.val (.int p0_0), .val (.int p0_1), .val (.int p0_2), .val (.int p0_3), .val (.int (bI (¬ ((p0_3 &&& (1 : Int32)) = (0 : Int32))))), .val (.int (bI (¬ ((p0_3 &&& (2 : Int32)) = (0 : Int32))))), .val (.int (bI (¬ ((p0_3 &&& (4 : Int32)) = (0 : Int32))))), .val (.ref b16), .val (.ref b35), .val (.ref b35), .val (.int ((((p0_0.toInt8.toInt32)).toInt8.toInt32 &&& (255 : Int32)) ^^^ (if (bI (¬ ((p0_3 &&& (1 : Int32)) = (0 : Int32)))) = (0 : Int32) then (0 : Int32) else (255 : Int32)))), .val (.ref b35), .unset, .unset, .unset] [(.ref b35), (.ref b35)])) _
    refine Jvm.RoadKit.acmp (g := (mkF m 135 #[.val (.int p0_0), .val (.int p0_1), .val (.int p0_2), .val (.int p0_3), .val (.int (bI (¬ ((p0_3 &&& (1 : Int32)) = (0 : Int32))))), .val (.int (bI (¬ ((p0_3 &&& (2 : Int32)) = (0 : Int32))))), .val (.int (bI (¬ ((p0_3 &&& (4 : Int32)) = (0 : Int32))))), .val (.ref b16), .val (.ref b35), .val (.ref b35), .val (.int ((((p0_0.toInt8.toInt32)).toInt8.toInt32 &&& (255 : Int32)) ^^^ (if (bI (¬ ((p0_3 &&& (1 : Int32)) = (0 : Int32)))) = (0 : Int32) then (0 : Int32) else (255 : Int32)))), .val (.ref b35), .unset, .unset, .unset] [(.ref b35), (.ref b35)])) X68 hx rfl rfl rfl (pc0 := 135) (pc' := 140) (same := true) rfl (hb hby at_135) rfl (decide_eq_true rfl) (by decide) (by decide) ?_
    show Steps p.tables e below (T68.setTop (mkF m 140 #[.val (.int p0_0), .val (.int p0_1), .val (.int p0_2), .val (.int p0_3), .val (.int (bI (¬ ((p0_3 &&& (1 : Int32)) = (0 : Int32))))), .val (.int (bI (¬ ((p0_3 &&& (2 : Int32)) = (0 : Int32))))), .val (.int (bI (¬ ((p0_3 &&& (4 : Int32)) = (0 : Int32))))), .val (.ref b16), .val (.ref b35), .val (.ref b35), .val (.int ((((p0_0.toInt8.toInt32)).toInt8.toInt32 &&& (255 : Int32)) ^^^ (if (bI (¬ ((p0_3 &&& (1 : Int32)) = (0 : Int32)))) = (0 : Int32) then (0 : Int32) else (255 : Int32)))), .val (.ref b35), .unset, .unset, .unset] [])) _
    refine XS.aload X68.here hx rfl (hb hby at_140) rfl rfl ?_
    show Steps p.tables e below (T68.setTop (mkF m 142 #[.val (.int p0_0), .val (.int p0_1), .val (.int p0_2), .val (.int p0_3), .val (.int (bI (¬ ((p0_3 &&& (1 : Int32)) = (0 : Int32))))), .val (.int (bI (¬ ((p0_3 &&& (2 : Int32)) = (0 : Int32))))), .val (.int (bI (¬ ((p0_3 &&& (4 : Int32)) = (0 : Int32))))), .val (.ref b16), .val (.ref b35), .val (.ref b35), .val (.int ((((p0_0.toInt8.toInt32)).toInt8.toInt32 &&& (255 : Int32)) ^^^ (if (bI (¬ ((p0_3 &&& (1 : Int32)) = (0 : Int32)))) = (0 : Int32) then (0 : Int32) else (255 : Int32)))), .val (.ref b35), .unset, .unset, .unset] [(.ref b35)])) _
    refine st74.trans ?_
    exact k)
  have f77 := f71.keep K74 (ninS ne36 nin0)
  have f78 := r68_0.keep K74
  have z79 := Nat.le_trans z73 K74.1
  obtain ⟨_, _, ⟨T80, L80, k80, n80⟩, -, X80, ⟨Lc80, hQ80, l80, y80, z80⟩, st80⟩ := Jvm.LawKit.callS X74 hx (y := (⟨"com/example/libmosaic/libmosaic/encoding/ByteReaderComplementPinLaw", "expect", "(IZ)I"⟩ : MethodName)) hown (mvT hZ (hVV 35 _ rfl)) (mvT hZ (hVV 36 _ rfl)) (mvT hZ (hVV 37 _ rfl)) (mvT hZ (hVV 38 _ rfl)) (by decide) (backOf (W := 1) (rm7 l Z a0 hw [] p0_1 (bI (¬ ((p0_3 &&& (2 : Int32)) = (0 : Int32)))) T74.heap n0 z79 ) hZ (hVV 38 _ rfl) (hVV 37 _ rfl) (by decide) (by decide)) (g := (mkF m 152 #[.val (.int p0_0), .val (.int p0_1), .val (.int p0_2), .val (.int p0_3), .val (.int (bI (¬ ((p0_3 &&& (1 : Int32)) = (0 : Int32))))), .val (.int (bI (¬ ((p0_3 &&& (2 : Int32)) = (0 : Int32))))), .val (.int (bI (¬ ((p0_3 &&& (4 : Int32)) = (0 : Int32))))), .val (.ref b16), .val (.ref b35), .val (.ref b35), .val (.int ((((p0_0.toInt8.toInt32)).toInt8.toInt32 &&& (255 : Int32)) ^^^ (if (bI (¬ ((p0_3 &&& (1 : Int32)) = (0 : Int32)))) = (0 : Int32) then (0 : Int32) else (255 : Int32)))), .val (.ref b35), .val (.int ((((p0_1.toInt8.toInt32)).toInt8.toInt32 &&& (255 : Int32)) ^^^ (if (bI (¬ ((p0_3 &&& (2 : Int32)) = (0 : Int32)))) = (0 : Int32) then (0 : Int32) else (255 : Int32)))), .unset, .unset] [(.int (bI (¬ ((p0_3 &&& (2 : Int32)) = (0 : Int32))))), (.int p0_1), (.int ((((p0_1.toInt8.toInt32)).toInt8.toInt32 &&& (255 : Int32)) ^^^ (if (bI (¬ ((p0_3 &&& (2 : Int32)) = (0 : Int32)))) = (0 : Int32) then (0 : Int32) else (255 : Int32))))])) rfl (by rw [hml]; rfl) (argsL := [(.int p0_1), (.int (bI (¬ ((p0_3 &&& (2 : Int32)) = (0 : Int32)))))]) (rest := [(.int ((((p0_1.toInt8.toInt32)).toInt8.toInt32 &&& (255 : Int32)) ^^^ (if (bI (¬ ((p0_3 &&& (2 : Int32)) = (0 : Int32)))) = (0 : Int32) then (0 : Int32) else (255 : Int32))))]) (lenOf pd_4 rfl) rfl (by show 2 * 0 + _ ≤ _; exact Nat.le_of_eq rfl) (hb hby at_152) (fun _ _ => ⟨rfl, rfl, (by decide : 2 + 0 ≤ _), (by decide : 6 + 0 ≤ _)⟩)
  dsimp only [Pt.U, Pt.locs, Pt.cells, Pt.slots] at X80 l80 y80 z80 st80 hQ80
  subst l80 y80 z80
  obtain ⟨rfl, N80q, e80⟩ := hQ80
  have N81 := Fr.app N75 N80q
  have pre82 : ∀ t, Steps p.tables e below (T80.setTop (mkF m 155 #[.val (.int p0_0), .val (.int p0_1), .val (.int p0_2), .val (.int p0_3), .val (.int (bI (¬ ((p0_3 &&& (1 : Int32)) = (0 : Int32))))), .val (.int (bI (¬ ((p0_3 &&& (2 : Int32)) = (0 : Int32))))), .val (.int (bI (¬ ((p0_3 &&& (4 : Int32)) = (0 : Int32))))), .val (.ref b16), .val (.ref b35), .val (.ref b35), .val (.int ((((p0_0.toInt8.toInt32)).toInt8.toInt32 &&& (255 : Int32)) ^^^ (if (bI (¬ ((p0_3 &&& (1 : Int32)) = (0 : Int32)))) = (0 : Int32) then (0 : Int32) else (255 : Int32)))), .val (.ref b35), .val (.int ((((p0_1.toInt8.toInt32)).toInt8.toInt32 &&& (255 : Int32)) ^^^ (if (bI (¬ ((p0_3 &&& (2 : Int32)) = (0 : Int32)))) = (0 : Int32) then (0 : Int32) else (255 : Int32)))), .unset, .unset] [(.int (if (bI (¬ ((p0_3 &&& (2 : Int32)) = (0 : Int32)))) = (0 : Int32) then (p0_1 &&& (255 : Int32)) else ((255 : Int32) - (p0_1 &&& (255 : Int32))))), (.int ((((p0_1.toInt8.toInt32)).toInt8.toInt32 &&& (255 : Int32)) ^^^ (if (bI (¬ ((p0_3 &&& (2 : Int32)) = (0 : Int32)))) = (0 : Int32) then (0 : Int32) else (255 : Int32))))])) t → Steps p.tables e below (s₁.setTop (entryFrame m #[(.int p0_0), (.int p0_1), (.int p0_2), (.int p0_3)] maxLocals)) t := fun t k => pre76 t (by
    show Steps p.tables e below (T74.setTop (mkF m 145 #[.val (.int p0_0), .val (.int p0_1), .val (.int p0_2), .val (.int p0_3), .val (.int (bI (¬ ((p0_3 &&& (1 : Int32)) = (0 : Int32))))), .val (.int (bI (¬ ((p0_3 &&& (2 : Int32)) = (0 : Int32))))), .val (.int (bI (¬ ((p0_3 &&& (4 : Int32)) = (0 : Int32))))), .val (.ref b16), .val (.ref b35), .val (.ref b35), .val (.int ((((p0_0.toInt8.toInt32)).toInt8.toInt32 &&& (255 : Int32)) ^^^ (if (bI (¬ ((p0_3 &&& (1 : Int32)) = (0 : Int32)))) = (0 : Int32) then (0 : Int32) else (255 : Int32)))), .val (.ref b35), .unset, .unset, .unset] [(.int ((((p0_1.toInt8.toInt32)).toInt8.toInt32 &&& (255 : Int32)) ^^^ (if (bI (¬ ((p0_3 &&& (2 : Int32)) = (0 : Int32)))) = (0 : Int32) then (0 : Int32) else (255 : Int32))))])) _
    refine XS.istore X74.here hx rfl (hb hby at_145) rfl (l' := #[.val (.int p0_0), .val (.int p0_1), .val (.int p0_2), .val (.int p0_3), .val (.int (bI (¬ ((p0_3 &&& (1 : Int32)) = (0 : Int32))))), .val (.int (bI (¬ ((p0_3 &&& (2 : Int32)) = (0 : Int32))))), .val (.int (bI (¬ ((p0_3 &&& (4 : Int32)) = (0 : Int32))))), .val (.ref b16), .val (.ref b35), .val (.ref b35), .val (.int ((((p0_0.toInt8.toInt32)).toInt8.toInt32 &&& (255 : Int32)) ^^^ (if (bI (¬ ((p0_3 &&& (1 : Int32)) = (0 : Int32)))) = (0 : Int32) then (0 : Int32) else (255 : Int32)))), .val (.ref b35), .val (.int ((((p0_1.toInt8.toInt32)).toInt8.toInt32 &&& (255 : Int32)) ^^^ (if (bI (¬ ((p0_3 &&& (2 : Int32)) = (0 : Int32)))) = (0 : Int32) then (0 : Int32) else (255 : Int32)))), .unset, .unset]) rfl ?_
    show Steps p.tables e below (T74.setTop (mkF m 147 #[.val (.int p0_0), .val (.int p0_1), .val (.int p0_2), .val (.int p0_3), .val (.int (bI (¬ ((p0_3 &&& (1 : Int32)) = (0 : Int32))))), .val (.int (bI (¬ ((p0_3 &&& (2 : Int32)) = (0 : Int32))))), .val (.int (bI (¬ ((p0_3 &&& (4 : Int32)) = (0 : Int32))))), .val (.ref b16), .val (.ref b35), .val (.ref b35), .val (.int ((((p0_0.toInt8.toInt32)).toInt8.toInt32 &&& (255 : Int32)) ^^^ (if (bI (¬ ((p0_3 &&& (1 : Int32)) = (0 : Int32)))) = (0 : Int32) then (0 : Int32) else (255 : Int32)))), .val (.ref b35), .val (.int ((((p0_1.toInt8.toInt32)).toInt8.toInt32 &&& (255 : Int32)) ^^^ (if (bI (¬ ((p0_3 &&& (2 : Int32)) = (0 : Int32)))) = (0 : Int32) then (0 : Int32) else (255 : Int32)))), .unset, .unset] [])) _
    refine XS.iload X74.here hx rfl (hb hby at_147) rfl ?_
    show Steps p.tables e below (T74.setTop (mkF m 149 #[.val (.int p0_0), .val (.int p0_1), .val (.int p0_2), .val (.int p0_3), .val (.int (bI (¬ ((p0_3 &&& (1 : Int32)) = (0 : Int32))))), .val (.int (bI (¬ ((p0_3 &&& (2 : Int32)) = (0 : Int32))))), .val (.int (bI (¬ ((p0_3 &&& (4 : Int32)) = (0 : Int32))))), .val (.ref b16), .val (.ref b35), .val (.ref b35), .val (.int ((((p0_0.toInt8.toInt32)).toInt8.toInt32 &&& (255 : Int32)) ^^^ (if (bI (¬ ((p0_3 &&& (1 : Int32)) = (0 : Int32)))) = (0 : Int32) then (0 : Int32) else (255 : Int32)))), .val (.ref b35), .val (.int ((((p0_1.toInt8.toInt32)).toInt8.toInt32 &&& (255 : Int32)) ^^^ (if (bI (¬ ((p0_3 &&& (2 : Int32)) = (0 : Int32)))) = (0 : Int32) then (0 : Int32) else (255 : Int32)))), .unset, .unset] [(.int ((((p0_1.toInt8.toInt32)).toInt8.toInt32 &&& (255 : Int32)) ^^^ (if (bI (¬ ((p0_3 &&& (2 : Int32)) = (0 : Int32)))) = (0 : Int32) then (0 : Int32) else (255 : Int32))))])) _
    refine XS.iloadN X74.here hx rfl (hb hby at_149) rfl ?_
    show Steps p.tables e below (T74.setTop (mkF m 150 #[.val (.int p0_0), .val (.int p0_1), .val (.int p0_2), .val (.int p0_3), .val (.int (bI (¬ ((p0_3 &&& (1 : Int32)) = (0 : Int32))))), .val (.int (bI (¬ ((p0_3 &&& (2 : Int32)) = (0 : Int32))))), .val (.int (bI (¬ ((p0_3 &&& (4 : Int32)) = (0 : Int32))))), .val (.ref b16), .val (.ref b35), .val (.ref b35), .val (.int ((((p0_0.toInt8.toInt32)).toInt8.toInt32 &&& (255 : Int32)) ^^^ (if (bI (¬ ((p0_3 &&& (1 : Int32)) = (0 : Int32)))) = (0 : Int32) then (0 : Int32) else (255 : Int32)))), .val (.ref b35), .val (.int ((((p0_1.toInt8.toInt32)).toInt8.toInt32 &&& (255 : Int32)) ^^^ (if (bI (¬ ((p0_3 &&& (2 : Int32)) = (0 : Int32)))) = (0 : Int32) then (0 : Int32) else (255 : Int32)))), .unset, .unset] [(.int p0_1), (.int ((((p0_1.toInt8.toInt32)).toInt8.toInt32 &&& (255 : Int32)) ^^^ (if (bI (¬ ((p0_3 &&& (2 : Int32)) = (0 : Int32)))) = (0 : Int32) then (0 : Int32) else (255 : Int32))))])) _
    refine XS.iload X74.here hx rfl (hb hby at_150) rfl ?_
    show Steps p.tables e below (T74.setTop (mkF m 152 #[.val (.int p0_0), .val (.int p0_1), .val (.int p0_2), .val (.int p0_3), .val (.int (bI (¬ ((p0_3 &&& (1 : Int32)) = (0 : Int32))))), .val (.int (bI (¬ ((p0_3 &&& (2 : Int32)) = (0 : Int32))))), .val (.int (bI (¬ ((p0_3 &&& (4 : Int32)) = (0 : Int32))))), .val (.ref b16), .val (.ref b35), .val (.ref b35), .val (.int ((((p0_0.toInt8.toInt32)).toInt8.toInt32 &&& (255 : Int32)) ^^^ (if (bI (¬ ((p0_3 &&& (1 : Int32)) = (0 : Int32)))) = (0 : Int32) then (0 : Int32) else (255 : Int32)))), .val (.ref b35), .val (.int ((((p0_1.toInt8.toInt32)).toInt8.toInt32 &&& (255 : Int32)) ^^^ (if (bI (¬ ((p0_3 &&& (2 : Int32)) = (0 : Int32)))) = (0 : Int32) then (0 : Int32) else (255 : Int32)))), .unset, .unset] [(.int (bI (¬ ((p0_3 &&& (2 : Int32)) = (0 : Int32))))), (.int p0_1), (.int ((((p0_1.toInt8.toInt32)).toInt8.toInt32 &&& (255 : Int32)) ^^^ (if (bI (¬ ((p0_3 &&& (2 : Int32)) = (0 : Int32)))) = (0 : Int32) then (0 : Int32) else (255 : Int32))))])) _
    refine st80 _ ?_
    exact k)
  have hd83 : ((((p0_1.toInt8.toInt32)).toInt8.toInt32 &&& (255 : Int32)) ^^^ (if (bI (¬ ((p0_3 &&& (2 : Int32)) = (0 : Int32)))) = (0 : Int32) then (0 : Int32) else (255 : Int32))) = (if (bI (¬ ((p0_3 &&& (2 : Int32)) = (0 : Int32)))) = (0 : Int32) then (p0_1 &&& (255 : Int32)) else ((255 : Int32) - (p0_1 &&& (255 : Int32)))) := by
    exact own_fin _ _
  obtain ⟨cq84, kq84, q84a, q84b, q84c⟩ := isOf hZ e80 r74_0
  obtain ⟨_, _, ⟨T84, L84, k84, n84⟩, -, X84, ⟨Lc84, hQ84, l84, y84, z84⟩, st84⟩ := X80.virtualBack hx (y := (⟨"com/example/libmosaic/libmosaic/encoding/ByteReader", "complement", "(Z)Lcom/example/libmosaic/libmosaic/encoding/ByteReader;"⟩ : MethodName)) (z := (⟨"com/example/libmosaic/libmosaic/encoding/ByteReader", "complement", "(Z)Lcom/example/libmosaic/libmosaic/encoding/ByteReader;"⟩ : MethodName)) hown (mvT hZ (hVV 14 _ rfl)) (mvT hZ (hVV 15 _ rfl)) (notFace_of_selects (args := #[]) (mvT hZ (hVV 17 _ rfl))) (mvT hZ (hVV 17 _ rfl)) (mvT hZ (hVV 16 _ rfl)) (by decide) (backOf (W := 0) (rm3 l Z a0 hw [] b35 (bI (¬ ((p0_3 &&& (4 : Int32)) = (0 : Int32)))) (.ref b16) (2 : Int32) (if (bI (¬ ((p0_3 &&& (2 : Int32)) = (0 : Int32)))) = (0 : Int32) then (0 : Int32) else (255 : Int32)) T74.heap n0 z79 r74_0 r74_1 r74_3 r74_2 gz35) hZ (hVV 18 _ rfl) (hVV 3 _ rfl) (by decide) (by decide)) q84a q84c (g := (mkF m 164 #[.val (.int p0_0), .val (.int p0_1), .val (.int p0_2), .val (.int p0_3), .val (.int (bI (¬ ((p0_3 &&& (1 : Int32)) = (0 : Int32))))), .val (.int (bI (¬ ((p0_3 &&& (2 : Int32)) = (0 : Int32))))), .val (.int (bI (¬ ((p0_3 &&& (4 : Int32)) = (0 : Int32))))), .val (.ref b16), .val (.ref b35), .val (.ref b35), .val (.int ((((p0_0.toInt8.toInt32)).toInt8.toInt32 &&& (255 : Int32)) ^^^ (if (bI (¬ ((p0_3 &&& (1 : Int32)) = (0 : Int32)))) = (0 : Int32) then (0 : Int32) else (255 : Int32)))), .val (.ref b35), .val (.int ((((p0_1.toInt8.toInt32)).toInt8.toInt32 &&& (255 : Int32)) ^^^ (if (bI (¬ ((p0_3 &&& (2 : Int32)) = (0 : Int32)))) = (0 : Int32) then (0 : Int32) else (255 : Int32)))), .unset, .unset] [(.int (bI (¬ ((p0_3 &&& (4 : Int32)) = (0 : Int32))))), (.ref b35)])) rfl (by rw [hml]; rfl) (Steps.refl _) (argsL := [(.int (bI (¬ ((p0_3 &&& (4 : Int32)) = (0 : Int32)))))]) (rest := []) (lenOf pd_2 rfl) rfl (by show 2 * 0 + _ ≤ _; exact Nat.le_of_eq rfl) (hb hby at_164) (fun _ _ => ⟨rfl, e80, (by decide : 2 + 0 ≤ _), (by decide : 6 + 0 ≤ _)⟩)
  dsimp only [Pt.U, Pt.locs, Pt.cells, Pt.slots] at X84 l84 y84 z84 st84 hQ84
  subst l84 y84 z84
  obtain ⟨rfl, N84q, K84, r84_0, r84_1, r84_2, r84_3⟩ := hQ84
  have N85 := Fr.app N81 N84q
  have pre86 : ∀ t, Steps p.tables e below (T84.setTop (mkF m 167 #[.val (.int p0_0), .val (.int p0_1), .val (.int p0_2), .val (.int p0_3), .val (.int (bI (¬ ((p0_3 &&& (1 : Int32)) = (0 : Int32))))), .val (.int (bI (¬ ((p0_3 &&& (2 : Int32)) = (0 : Int32))))), .val (.int (bI (¬ ((p0_3 &&& (4 : Int32)) = (0 : Int32))))), .val (.ref b16), .val (.ref b35), .val (.ref b35), .val (.int ((((p0_0.toInt8.toInt32)).toInt8.toInt32 &&& (255 : Int32)) ^^^ (if (bI (¬ ((p0_3 &&& (1 : Int32)) = (0 : Int32)))) = (0 : Int32) then (0 : Int32) else (255 : Int32)))), .val (.ref b35), .val (.int ((((p0_1.toInt8.toInt32)).toInt8.toInt32 &&& (255 : Int32)) ^^^ (if (bI (¬ ((p0_3 &&& (2 : Int32)) = (0 : Int32)))) = (0 : Int32) then (0 : Int32) else (255 : Int32)))), .unset, .unset] [(.ref b35)])) t → Steps p.tables e below (s₁.setTop (entryFrame m #[(.int p0_0), (.int p0_1), (.int p0_2), (.int p0_3)] maxLocals)) t := fun t k => pre82 t (by
    show Steps p.tables e below (T80.setTop (mkF m 155 #[.val (.int p0_0), .val (.int p0_1), .val (.int p0_2), .val (.int p0_3), .val (.int (bI (¬ ((p0_3 &&& (1 : Int32)) = (0 : Int32))))), .val (.int (bI (¬ ((p0_3 &&& (2 : Int32)) = (0 : Int32))))), .val (.int (bI (¬ ((p0_3 &&& (4 : Int32)) = (0 : Int32))))), .val (.ref b16), .val (.ref b35), .val (.ref b35), .val (.int ((((p0_0.toInt8.toInt32)).toInt8.toInt32 &&& (255 : Int32)) ^^^ (if (bI (¬ ((p0_3 &&& (1 : Int32)) = (0 : Int32)))) = (0 : Int32) then (0 : Int32) else (255 : Int32)))), .val (.ref b35), .val (.int ((((p0_1.toInt8.toInt32)).toInt8.toInt32 &&& (255 : Int32)) ^^^ (if (bI (¬ ((p0_3 &&& (2 : Int32)) = (0 : Int32)))) = (0 : Int32) then (0 : Int32) else (255 : Int32)))), .unset, .unset] [(.int (if (bI (¬ ((p0_3 &&& (2 : Int32)) = (0 : Int32)))) = (0 : Int32) then (p0_1 &&& (255 : Int32)) else ((255 : Int32) - (p0_1 &&& (255 : Int32))))), (.int ((((p0_1.toInt8.toInt32)).toInt8.toInt32 &&& (255 : Int32)) ^^^ (if (bI (¬ ((p0_3 &&& (2 : Int32)) = (0 : Int32)))) = (0 : Int32) then (0 : Int32) else (255 : Int32))))])) _
    refine XS.icmpYes X80.here hx rfl (pc0 := 155) (pc' := 160) rfl (hb hby at_155) rfl (teq hd83).1 (by decide) (by decide) ?_
    show Steps p.tables e below (T80.setTop (mkF m 160 #[.val (.int p0_0), .val (.int p0_1), .val (.int p0_2), .val (.int p0_3), .val (.int (bI (¬ ((p0_3 &&& (1 : Int32)) = (0 : Int32))))), .val (.int (bI (¬ ((p0_3 &&& (2 : Int32)) = (0 : Int32))))), .val (.int (bI (¬ ((p0_3 &&& (4 : Int32)) = (0 : Int32))))), .val (.ref b16), .val (.ref b35), .val (.ref b35), .val (.int ((((p0_0.toInt8.toInt32)).toInt8.toInt32 &&& (255 : Int32)) ^^^ (if (bI (¬ ((p0_3 &&& (1 : Int32)) = (0 : Int32)))) = (0 : Int32) then (0 : Int32) else (255 : Int32)))), .val (.ref b35), .val (.int ((((p0_1.toInt8.toInt32)).toInt8.toInt32 &&& (255 : Int32)) ^^^ (if (bI (¬ ((p0_3 &&& (2 : Int32)) = (0 : Int32)))) = (0 : Int32) then (0 : Int32) else (255 : Int32)))), .unset, .unset] [])) _
    refine XS.aload X80.here hx rfl (hb hby at_160) rfl rfl ?_
    show Steps p.tables e below (T80.setTop (mkF m 162 #[.val (.int p0_0), .val (.int p0_1), .val (.int p0_2), .val (.int p0_3), .val (.int (bI (¬ ((p0_3 &&& (1 : Int32)) = (0 : Int32))))), .val (.int (bI (¬ ((p0_3 &&& (2 : Int32)) = (0 : Int32))))), .val (.int (bI (¬ ((p0_3 &&& (4 : Int32)) = (0 : Int32))))), .val (.ref b16), .val (.ref b35), .val (.ref b35), .val (.int ((((p0_0.toInt8.toInt32)).toInt8.toInt32 &&& (255 : Int32)) ^^^ (if (bI (¬ ((p0_3 &&& (1 : Int32)) = (0 : Int32)))) = (0 : Int32) then (0 : Int32) else (255 : Int32)))), .val (.ref b35), .val (.int ((((p0_1.toInt8.toInt32)).toInt8.toInt32 &&& (255 : Int32)) ^^^ (if (bI (¬ ((p0_3 &&& (2 : Int32)) = (0 : Int32)))) = (0 : Int32) then (0 : Int32) else (255 : Int32)))), .unset, .unset] [(.ref b35)])) _
    refine XS.iload X80.here hx rfl (hb hby at_162) rfl ?_
    show Steps p.tables e below (T80.setTop (mkF m 164 #[.val (.int p0_0), .val (.int p0_1), .val (.int p0_2), .val (.int p0_3), .val (.int (bI (¬ ((p0_3 &&& (1 : Int32)) = (0 : Int32))))), .val (.int (bI (¬ ((p0_3 &&& (2 : Int32)) = (0 : Int32))))), .val (.int (bI (¬ ((p0_3 &&& (4 : Int32)) = (0 : Int32))))), .val (.ref b16), .val (.ref b35), .val (.ref b35), .val (.int ((((p0_0.toInt8.toInt32)).toInt8.toInt32 &&& (255 : Int32)) ^^^ (if (bI (¬ ((p0_3 &&& (1 : Int32)) = (0 : Int32)))) = (0 : Int32) then (0 : Int32) else (255 : Int32)))), .val (.ref b35), .val (.int ((((p0_1.toInt8.toInt32)).toInt8.toInt32 &&& (255 : Int32)) ^^^ (if (bI (¬ ((p0_3 &&& (2 : Int32)) = (0 : Int32)))) = (0 : Int32) then (0 : Int32) else (255 : Int32)))), .unset, .unset] [(.int (bI (¬ ((p0_3 &&& (4 : Int32)) = (0 : Int32))))), (.ref b35)])) _
    refine st84.trans ?_
    exact k)
  have f87 := f77.keep K84 (ninS ne36 nin0)
  have f88 := r74_0.keep K84
  have z89 := Nat.le_trans z79 K84.1
  obtain ⟨cq90, kq90, q90a, q90b, q90c⟩ := isOf hZ rfl r84_0
  obtain ⟨_, _, ⟨T90, L90, k90, n90⟩, -, X90, ⟨Lc90, hQ90, l90, y90, z90⟩, st90⟩ := X84.virtualBack hx (y := (⟨"com/example/libmosaic/libmosaic/encoding/ByteReader", "read", "()I"⟩ : MethodName)) (z := (⟨"com/example/libmosaic/libmosaic/encoding/ByteReader", "read", "()I"⟩ : MethodName)) hown (mvT hZ (hVV 26 _ rfl)) (mvT hZ (hVV 27 _ rfl)) (notFace_of_selects (args := #[]) (mvT hZ (hVV 29 _ rfl))) (mvT hZ (hVV 29 _ rfl)) (mvT hZ (hVV 28 _ rfl)) (by decide) (backOf (W := 0) (rm5_2 l Z a0 hw [] b35 b16 k16 (((p0_0.toInt8.toInt32)).toInt8.toInt32) (((p0_1.toInt8.toInt32)).toInt8.toInt32) (((p0_2.toInt8.toInt32)).toInt8.toInt32) (if (bI (¬ ((p0_3 &&& (4 : Int32)) = (0 : Int32)))) = (0 : Int32) then (0 : Int32) else (255 : Int32)) T84.heap n0 z89 r84_1 r84_2 f87 ne36 r84_0 r84_3 gz35) hZ (hVV 30 _ rfl) (hVV 3 _ rfl) (by decide) (by decide)) q90a q90c (g := (mkF m 180 #[.val (.int p0_0), .val (.int p0_1), .val (.int p0_2), .val (.int p0_3), .val (.int (bI (¬ ((p0_3 &&& (1 : Int32)) = (0 : Int32))))), .val (.int (bI (¬ ((p0_3 &&& (2 : Int32)) = (0 : Int32))))), .val (.int (bI (¬ ((p0_3 &&& (4 : Int32)) = (0 : Int32))))), .val (.ref b16), .val (.ref b35), .val (.ref b35), .val (.int ((((p0_0.toInt8.toInt32)).toInt8.toInt32 &&& (255 : Int32)) ^^^ (if (bI (¬ ((p0_3 &&& (1 : Int32)) = (0 : Int32)))) = (0 : Int32) then (0 : Int32) else (255 : Int32)))), .val (.ref b35), .val (.int ((((p0_1.toInt8.toInt32)).toInt8.toInt32 &&& (255 : Int32)) ^^^ (if (bI (¬ ((p0_3 &&& (2 : Int32)) = (0 : Int32)))) = (0 : Int32) then (0 : Int32) else (255 : Int32)))), .val (.ref b35), .unset] [(.ref b35)])) rfl (by rw [hml]; rfl) (Steps.refl _) (argsL := []) (rest := []) (lenOf pd_3 rfl) rfl (by show 2 * 0 + _ ≤ _; exact Nat.le_of_eq rfl) (hb hby at_180) (fun _ _ => ⟨rfl, rfl, (by decide : 2 + 0 ≤ _), (by decide : 6 + 0 ≤ _)⟩)
  dsimp only [Pt.U, Pt.locs, Pt.cells, Pt.slots] at X90 l90 y90 z90 st90 hQ90
  subst l90 y90 z90
  obtain ⟨rfl, N90q, K90, r90_0, r90_1, r90_2, r90_3⟩ := hQ90
  have N91 := Fr.app N85 N90q
  have pre92 : ∀ t, Steps p.tables e below (T90.setTop (mkF m 183 #[.val (.int p0_0), .val (.int p0_1), .val (.int p0_2), .val (.int p0_3), .val (.int (bI (¬ ((p0_3 &&& (1 : Int32)) = (0 : Int32))))), .val (.int (bI (¬ ((p0_3 &&& (2 : Int32)) = (0 : Int32))))), .val (.int (bI (¬ ((p0_3 &&& (4 : Int32)) = (0 : Int32))))), .val (.ref b16), .val (.ref b35), .val (.ref b35), .val (.int ((((p0_0.toInt8.toInt32)).toInt8.toInt32 &&& (255 : Int32)) ^^^ (if (bI (¬ ((p0_3 &&& (1 : Int32)) = (0 : Int32)))) = (0 : Int32) then (0 : Int32) else (255 : Int32)))), .val (.ref b35), .val (.int ((((p0_1.toInt8.toInt32)).toInt8.toInt32 &&& (255 : Int32)) ^^^ (if (bI (¬ ((p0_3 &&& (2 : Int32)) = (0 : Int32)))) = (0 : Int32) then (0 : Int32) else (255 : Int32)))), .val (.ref b35), .unset] [(.int ((((p0_2.toInt8.toInt32)).toInt8.toInt32 &&& (255 : Int32)) ^^^ (if (bI (¬ ((p0_3 &&& (4 : Int32)) = (0 : Int32)))) = (0 : Int32) then (0 : Int32) else (255 : Int32))))])) t → Steps p.tables e below (s₁.setTop (entryFrame m #[(.int p0_0), (.int p0_1), (.int p0_2), (.int p0_3)] maxLocals)) t := fun t k => pre86 t (by
    show Steps p.tables e below (T84.setTop (mkF m 167 #[.val (.int p0_0), .val (.int p0_1), .val (.int p0_2), .val (.int p0_3), .val (.int (bI (¬ ((p0_3 &&& (1 : Int32)) = (0 : Int32))))), .val (.int (bI (¬ ((p0_3 &&& (2 : Int32)) = (0 : Int32))))), .val (.int (bI (¬ ((p0_3 &&& (4 : Int32)) = (0 : Int32))))), .val (.ref b16), .val (.ref b35), .val (.ref b35), .val (.int ((((p0_0.toInt8.toInt32)).toInt8.toInt32 &&& (255 : Int32)) ^^^ (if (bI (¬ ((p0_3 &&& (1 : Int32)) = (0 : Int32)))) = (0 : Int32) then (0 : Int32) else (255 : Int32)))), .val (.ref b35), .val (.int ((((p0_1.toInt8.toInt32)).toInt8.toInt32 &&& (255 : Int32)) ^^^ (if (bI (¬ ((p0_3 &&& (2 : Int32)) = (0 : Int32)))) = (0 : Int32) then (0 : Int32) else (255 : Int32)))), .unset, .unset] [(.ref b35)])) _
    refine XS.astore X84.here hx rfl (hb hby at_167) rfl rfl (l' := #[.val (.int p0_0), .val (.int p0_1), .val (.int p0_2), .val (.int p0_3), .val (.int (bI (¬ ((p0_3 &&& (1 : Int32)) = (0 : Int32))))), .val (.int (bI (¬ ((p0_3 &&& (2 : Int32)) = (0 : Int32))))), .val (.int (bI (¬ ((p0_3 &&& (4 : Int32)) = (0 : Int32))))), .val (.ref b16), .val (.ref b35), .val (.ref b35), .val (.int ((((p0_0.toInt8.toInt32)).toInt8.toInt32 &&& (255 : Int32)) ^^^ (if (bI (¬ ((p0_3 &&& (1 : Int32)) = (0 : Int32)))) = (0 : Int32) then (0 : Int32) else (255 : Int32)))), .val (.ref b35), .val (.int ((((p0_1.toInt8.toInt32)).toInt8.toInt32 &&& (255 : Int32)) ^^^ (if (bI (¬ ((p0_3 &&& (2 : Int32)) = (0 : Int32)))) = (0 : Int32) then (0 : Int32) else (255 : Int32)))), .val (.ref b35), .unset]) rfl ?_
    show Steps p.tables e below (T84.setTop (mkF m 169 #[.val (.int p0_0), .val (.int p0_1), .val (.int p0_2), .val (.int p0_3), .val (.int (bI (¬ ((p0_3 &&& (1 : Int32)) = (0 : Int32))))), .val (.int (bI (¬ ((p0_3 &&& (2 : Int32)) = (0 : Int32))))), .val (.int (bI (¬ ((p0_3 &&& (4 : Int32)) = (0 : Int32))))), .val (.ref b16), .val (.ref b35), .val (.ref b35), .val (.int ((((p0_0.toInt8.toInt32)).toInt8.toInt32 &&& (255 : Int32)) ^^^ (if (bI (¬ ((p0_3 &&& (1 : Int32)) = (0 : Int32)))) = (0 : Int32) then (0 : Int32) else (255 : Int32)))), .val (.ref b35), .val (.int ((((p0_1.toInt8.toInt32)).toInt8.toInt32 &&& (255 : Int32)) ^^^ (if (bI (¬ ((p0_3 &&& (2 : Int32)) = (0 : Int32)))) = (0 : Int32) then (0 : Int32) else (255 : Int32)))), .val (.ref b35), .unset] [])) _
    refine XS.aload X84.here hx rfl (hb hby at_169) rfl rfl ?_
    show Steps p.tables e below (T84.setTop (mkF m 171 #[.val (.int p0_0), .val (.int p0_1), .val (.int p0_2), .val (.int p0_3), .val (.int (bI (¬ ((p0_3 &&& (1 : Int32)) = (0 : Int32))))), .val (.int (bI (¬ ((p0_3 &&& (2 : Int32)) = (0 : Int32))))), .val (.int (bI (¬ ((p0_3 &&& (4 : Int32)) = (0 : Int32))))), .val (.ref b16), .val (.ref b35), .val (.ref b35), .val (.int ((((p0_0.toInt8.toInt32)).toInt8.toInt32 &&& (255 : Int32)) ^^^ (if (bI (¬ ((p0_3 &&& (1 : Int32)) = (0 : Int32)))) = (0 : Int32) then (0 : Int32) else (255 : Int32)))), .val (.ref b35), .val (.int ((((p0_1.toInt8.toInt32)).toInt8.toInt32 &&& (255 : Int32)) ^^^ (if (bI (¬ ((p0_3 &&& (2 : Int32)) = (0 : Int32)))) = (0 : Int32) then (0 : Int32) else (255 : Int32)))), .val (.ref b35), .unset] [(.ref b35)])) _
    refine XS.aload X84.here hx rfl (hb hby at_171) rfl rfl ?_
    show Steps p.tables e below (T84.setTop (mkF m 173 #[.val (.int p0_0), .val (.int p0_1), .val (.int p0_2), .val (.int p0_3), .val (.int (bI (¬ ((p0_3 &&& (1 : Int32)) = (0 : Int32))))), .val (.int (bI (¬ ((p0_3 &&& (2 : Int32)) = (0 : Int32))))), .val (.int (bI (¬ ((p0_3 &&& (4 : Int32)) = (0 : Int32))))), .val (.ref b16), .val (.ref b35), .val (.ref b35), .val (.int ((((p0_0.toInt8.toInt32)).toInt8.toInt32 &&& (255 : Int32)) ^^^ (if (bI (¬ ((p0_3 &&& (1 : Int32)) = (0 : Int32)))) = (0 : Int32) then (0 : Int32) else (255 : Int32)))), .val (.ref b35), .val (.int ((((p0_1.toInt8.toInt32)).toInt8.toInt32 &&& (255 : Int32)) ^^^ (if (bI (¬ ((p0_3 &&& (2 : Int32)) = (0 : Int32)))) = (0 : Int32) then (0 : Int32) else (255 : Int32)))), .val (.ref b35), .unset] [(.ref b35), (.ref b35)])) _
    refine Jvm.RoadKit.acmp (g := (mkF m 173 #[.val (.int p0_0), .val (.int p0_1), .val (.int p0_2), .val (.int p0_3), .val (.int (bI (¬ ((p0_3 &&& (1 : Int32)) = (0 : Int32))))), .val (.int (bI (¬ ((p0_3 &&& (2 : Int32)) = (0 : Int32))))), .val (.int (bI (¬ ((p0_3 &&& (4 : Int32)) = (0 : Int32))))), .val (.ref b16), .val (.ref b35), .val (.ref b35), .val (.int ((((p0_0.toInt8.toInt32)).toInt8.toInt32 &&& (255 : Int32)) ^^^ (if (bI (¬ ((p0_3 &&& (1 : Int32)) = (0 : Int32)))) = (0 : Int32) then (0 : Int32) else (255 : Int32)))), .val (.ref b35), .val (.int ((((p0_1.toInt8.toInt32)).toInt8.toInt32 &&& (255 : Int32)) ^^^ (if (bI (¬ ((p0_3 &&& (2 : Int32)) = (0 : Int32)))) = (0 : Int32) then (0 : Int32) else (255 : Int32)))), .val (.ref b35), .unset] [(.ref b35), (.ref b35)])) X84 hx rfl rfl rfl (pc0 := 173) (pc' := 178) (same := true) rfl (hb hby at_173) rfl (decide_eq_true rfl) (by decide) (by decide) ?_
    show Steps p.tables e below (T84.setTop (mkF m 178 #[.val (.int p0_0), .val (.int p0_1), .val (.int p0_2), .val (.int p0_3), .val (.int (bI (¬ ((p0_3 &&& (1 : Int32)) = (0 : Int32))))), .val (.int (bI (¬ ((p0_3 &&& (2 : Int32)) = (0 : Int32))))), .val (.int (bI (¬ ((p0_3 &&& (4 : Int32)) = (0 : Int32))))), .val (.ref b16), .val (.ref b35), .val (.ref b35), .val (.int ((((p0_0.toInt8.toInt32)).toInt8.toInt32 &&& (255 : Int32)) ^^^ (if (bI (¬ ((p0_3 &&& (1 : Int32)) = (0 : Int32)))) = (0 : Int32) then (0 : Int32) else (255 : Int32)))), .val (.ref b35), .val (.int ((((p0_1.toInt8.toInt32)).toInt8.toInt32 &&& (255 : Int32)) ^^^ (if (bI (¬ ((p0_3 &&& (2 : Int32)) = (0 : Int32)))) = (0 : Int32) then (0 : Int32) else (255 : Int32)))), .val (.ref b35), .unset] [])) _
    refine XS.aload X84.here hx rfl (hb hby at_178) rfl rfl ?_
    show Steps p.tables e below (T84.setTop (mkF m 180 #[.val (.int p0_0), .val (.int p0_1), .val (.int p0_2), .val (.int p0_3), .val (.int (bI (¬ ((p0_3 &&& (1 : Int32)) = (0 : Int32))))), .val (.int (bI (¬ ((p0_3 &&& (2 : Int32)) = (0 : Int32))))), .val (.int (bI (¬ ((p0_3 &&& (4 : Int32)) = (0 : Int32))))), .val (.ref b16), .val (.ref b35), .val (.ref b35), .val (.int ((((p0_0.toInt8.toInt32)).toInt8.toInt32 &&& (255 : Int32)) ^^^ (if (bI (¬ ((p0_3 &&& (1 : Int32)) = (0 : Int32)))) = (0 : Int32) then (0 : Int32) else (255 : Int32)))), .val (.ref b35), .val (.int ((((p0_1.toInt8.toInt32)).toInt8.toInt32 &&& (255 : Int32)) ^^^ (if (bI (¬ ((p0_3 &&& (2 : Int32)) = (0 : Int32)))) = (0 : Int32) then (0 : Int32) else (255 : Int32)))), .val (.ref b35), .unset] [(.ref b35)])) _
    refine st90.trans ?_
    exact k)
  have f93 := f87.keep K90 (ninS ne36 nin0)
  have f94 := r84_0.keep K90
  have z95 := Nat.le_trans z89 K90.1
  obtain ⟨_, _, ⟨T96, L96, k96, n96⟩, -, X96, ⟨Lc96, hQ96, l96, y96, z96⟩, st96⟩ := Jvm.LawKit.callS X90 hx (y := (⟨"com/example/libmosaic/libmosaic/encoding/ByteReaderComplementPinLaw", "expect", "(IZ)I"⟩ : MethodName)) hown (mvT hZ (hVV 35 _ rfl)) (mvT hZ (hVV 36 _ rfl)) (mvT hZ (hVV 37 _ rfl)) (mvT hZ (hVV 38 _ rfl)) (by decide) (backOf (W := 1) (rm7 l Z a0 hw [] p0_2 (bI (¬ ((p0_3 &&& (4 : Int32)) = (0 : Int32)))) T90.heap n0 z95 ) hZ (hVV 38 _ rfl) (hVV 37 _ rfl) (by decide) (by decide)) (g := (mkF m 190 #[.val (.int p0_0), .val (.int p0_1), .val (.int p0_2), .val (.int p0_3), .val (.int (bI (¬ ((p0_3 &&& (1 : Int32)) = (0 : Int32))))), .val (.int (bI (¬ ((p0_3 &&& (2 : Int32)) = (0 : Int32))))), .val (.int (bI (¬ ((p0_3 &&& (4 : Int32)) = (0 : Int32))))), .val (.ref b16), .val (.ref b35), .val (.ref b35), .val (.int ((((p0_0.toInt8.toInt32)).toInt8.toInt32 &&& (255 : Int32)) ^^^ (if (bI (¬ ((p0_3 &&& (1 : Int32)) = (0 : Int32)))) = (0 : Int32) then (0 : Int32) else (255 : Int32)))), .val (.ref b35), .val (.int ((((p0_1.toInt8.toInt32)).toInt8.toInt32 &&& (255 : Int32)) ^^^ (if (bI (¬ ((p0_3 &&& (2 : Int32)) = (0 : Int32)))) = (0 : Int32) then (0 : Int32) else (255 : Int32)))), .val (.ref b35), .val (.int ((((p0_2.toInt8.toInt32)).toInt8.toInt32 &&& (255 : Int32)) ^^^ (if (bI (¬ ((p0_3 &&& (4 : Int32)) = (0 : Int32)))) = (0 : Int32) then (0 : Int32) else (255 : Int32))))] [(.int (bI (¬ ((p0_3 &&& (4 : Int32)) = (0 : Int32))))), (.int p0_2), (.int ((((p0_2.toInt8.toInt32)).toInt8.toInt32 &&& (255 : Int32)) ^^^ (if (bI (¬ ((p0_3 &&& (4 : Int32)) = (0 : Int32)))) = (0 : Int32) then (0 : Int32) else (255 : Int32))))])) rfl (by rw [hml]; rfl) (argsL := [(.int p0_2), (.int (bI (¬ ((p0_3 &&& (4 : Int32)) = (0 : Int32)))))]) (rest := [(.int ((((p0_2.toInt8.toInt32)).toInt8.toInt32 &&& (255 : Int32)) ^^^ (if (bI (¬ ((p0_3 &&& (4 : Int32)) = (0 : Int32)))) = (0 : Int32) then (0 : Int32) else (255 : Int32))))]) (lenOf pd_4 rfl) rfl (by show 2 * 0 + _ ≤ _; exact Nat.le_of_eq rfl) (hb hby at_190) (fun _ _ => ⟨rfl, rfl, (by decide : 2 + 0 ≤ _), (by decide : 6 + 0 ≤ _)⟩)
  dsimp only [Pt.U, Pt.locs, Pt.cells, Pt.slots] at X96 l96 y96 z96 st96 hQ96
  subst l96 y96 z96
  obtain ⟨rfl, N96q, e96⟩ := hQ96
  have N97 := Fr.app N91 N96q
  have pre98 : ∀ t, Steps p.tables e below (T96.setTop (mkF m 193 #[.val (.int p0_0), .val (.int p0_1), .val (.int p0_2), .val (.int p0_3), .val (.int (bI (¬ ((p0_3 &&& (1 : Int32)) = (0 : Int32))))), .val (.int (bI (¬ ((p0_3 &&& (2 : Int32)) = (0 : Int32))))), .val (.int (bI (¬ ((p0_3 &&& (4 : Int32)) = (0 : Int32))))), .val (.ref b16), .val (.ref b35), .val (.ref b35), .val (.int ((((p0_0.toInt8.toInt32)).toInt8.toInt32 &&& (255 : Int32)) ^^^ (if (bI (¬ ((p0_3 &&& (1 : Int32)) = (0 : Int32)))) = (0 : Int32) then (0 : Int32) else (255 : Int32)))), .val (.ref b35), .val (.int ((((p0_1.toInt8.toInt32)).toInt8.toInt32 &&& (255 : Int32)) ^^^ (if (bI (¬ ((p0_3 &&& (2 : Int32)) = (0 : Int32)))) = (0 : Int32) then (0 : Int32) else (255 : Int32)))), .val (.ref b35), .val (.int ((((p0_2.toInt8.toInt32)).toInt8.toInt32 &&& (255 : Int32)) ^^^ (if (bI (¬ ((p0_3 &&& (4 : Int32)) = (0 : Int32)))) = (0 : Int32) then (0 : Int32) else (255 : Int32))))] [(.int (if (bI (¬ ((p0_3 &&& (4 : Int32)) = (0 : Int32)))) = (0 : Int32) then (p0_2 &&& (255 : Int32)) else ((255 : Int32) - (p0_2 &&& (255 : Int32))))), (.int ((((p0_2.toInt8.toInt32)).toInt8.toInt32 &&& (255 : Int32)) ^^^ (if (bI (¬ ((p0_3 &&& (4 : Int32)) = (0 : Int32)))) = (0 : Int32) then (0 : Int32) else (255 : Int32))))])) t → Steps p.tables e below (s₁.setTop (entryFrame m #[(.int p0_0), (.int p0_1), (.int p0_2), (.int p0_3)] maxLocals)) t := fun t k => pre92 t (by
    show Steps p.tables e below (T90.setTop (mkF m 183 #[.val (.int p0_0), .val (.int p0_1), .val (.int p0_2), .val (.int p0_3), .val (.int (bI (¬ ((p0_3 &&& (1 : Int32)) = (0 : Int32))))), .val (.int (bI (¬ ((p0_3 &&& (2 : Int32)) = (0 : Int32))))), .val (.int (bI (¬ ((p0_3 &&& (4 : Int32)) = (0 : Int32))))), .val (.ref b16), .val (.ref b35), .val (.ref b35), .val (.int ((((p0_0.toInt8.toInt32)).toInt8.toInt32 &&& (255 : Int32)) ^^^ (if (bI (¬ ((p0_3 &&& (1 : Int32)) = (0 : Int32)))) = (0 : Int32) then (0 : Int32) else (255 : Int32)))), .val (.ref b35), .val (.int ((((p0_1.toInt8.toInt32)).toInt8.toInt32 &&& (255 : Int32)) ^^^ (if (bI (¬ ((p0_3 &&& (2 : Int32)) = (0 : Int32)))) = (0 : Int32) then (0 : Int32) else (255 : Int32)))), .val (.ref b35), .unset] [(.int ((((p0_2.toInt8.toInt32)).toInt8.toInt32 &&& (255 : Int32)) ^^^ (if (bI (¬ ((p0_3 &&& (4 : Int32)) = (0 : Int32)))) = (0 : Int32) then (0 : Int32) else (255 : Int32))))])) _
    refine XS.istore X90.here hx rfl (hb hby at_183) rfl (l' := #[.val (.int p0_0), .val (.int p0_1), .val (.int p0_2), .val (.int p0_3), .val (.int (bI (¬ ((p0_3 &&& (1 : Int32)) = (0 : Int32))))), .val (.int (bI (¬ ((p0_3 &&& (2 : Int32)) = (0 : Int32))))), .val (.int (bI (¬ ((p0_3 &&& (4 : Int32)) = (0 : Int32))))), .val (.ref b16), .val (.ref b35), .val (.ref b35), .val (.int ((((p0_0.toInt8.toInt32)).toInt8.toInt32 &&& (255 : Int32)) ^^^ (if (bI (¬ ((p0_3 &&& (1 : Int32)) = (0 : Int32)))) = (0 : Int32) then (0 : Int32) else (255 : Int32)))), .val (.ref b35), .val (.int ((((p0_1.toInt8.toInt32)).toInt8.toInt32 &&& (255 : Int32)) ^^^ (if (bI (¬ ((p0_3 &&& (2 : Int32)) = (0 : Int32)))) = (0 : Int32) then (0 : Int32) else (255 : Int32)))), .val (.ref b35), .val (.int ((((p0_2.toInt8.toInt32)).toInt8.toInt32 &&& (255 : Int32)) ^^^ (if (bI (¬ ((p0_3 &&& (4 : Int32)) = (0 : Int32)))) = (0 : Int32) then (0 : Int32) else (255 : Int32))))]) rfl ?_
    show Steps p.tables e below (T90.setTop (mkF m 185 #[.val (.int p0_0), .val (.int p0_1), .val (.int p0_2), .val (.int p0_3), .val (.int (bI (¬ ((p0_3 &&& (1 : Int32)) = (0 : Int32))))), .val (.int (bI (¬ ((p0_3 &&& (2 : Int32)) = (0 : Int32))))), .val (.int (bI (¬ ((p0_3 &&& (4 : Int32)) = (0 : Int32))))), .val (.ref b16), .val (.ref b35), .val (.ref b35), .val (.int ((((p0_0.toInt8.toInt32)).toInt8.toInt32 &&& (255 : Int32)) ^^^ (if (bI (¬ ((p0_3 &&& (1 : Int32)) = (0 : Int32)))) = (0 : Int32) then (0 : Int32) else (255 : Int32)))), .val (.ref b35), .val (.int ((((p0_1.toInt8.toInt32)).toInt8.toInt32 &&& (255 : Int32)) ^^^ (if (bI (¬ ((p0_3 &&& (2 : Int32)) = (0 : Int32)))) = (0 : Int32) then (0 : Int32) else (255 : Int32)))), .val (.ref b35), .val (.int ((((p0_2.toInt8.toInt32)).toInt8.toInt32 &&& (255 : Int32)) ^^^ (if (bI (¬ ((p0_3 &&& (4 : Int32)) = (0 : Int32)))) = (0 : Int32) then (0 : Int32) else (255 : Int32))))] [])) _
    refine XS.iload X90.here hx rfl (hb hby at_185) rfl ?_
    show Steps p.tables e below (T90.setTop (mkF m 187 #[.val (.int p0_0), .val (.int p0_1), .val (.int p0_2), .val (.int p0_3), .val (.int (bI (¬ ((p0_3 &&& (1 : Int32)) = (0 : Int32))))), .val (.int (bI (¬ ((p0_3 &&& (2 : Int32)) = (0 : Int32))))), .val (.int (bI (¬ ((p0_3 &&& (4 : Int32)) = (0 : Int32))))), .val (.ref b16), .val (.ref b35), .val (.ref b35), .val (.int ((((p0_0.toInt8.toInt32)).toInt8.toInt32 &&& (255 : Int32)) ^^^ (if (bI (¬ ((p0_3 &&& (1 : Int32)) = (0 : Int32)))) = (0 : Int32) then (0 : Int32) else (255 : Int32)))), .val (.ref b35), .val (.int ((((p0_1.toInt8.toInt32)).toInt8.toInt32 &&& (255 : Int32)) ^^^ (if (bI (¬ ((p0_3 &&& (2 : Int32)) = (0 : Int32)))) = (0 : Int32) then (0 : Int32) else (255 : Int32)))), .val (.ref b35), .val (.int ((((p0_2.toInt8.toInt32)).toInt8.toInt32 &&& (255 : Int32)) ^^^ (if (bI (¬ ((p0_3 &&& (4 : Int32)) = (0 : Int32)))) = (0 : Int32) then (0 : Int32) else (255 : Int32))))] [(.int ((((p0_2.toInt8.toInt32)).toInt8.toInt32 &&& (255 : Int32)) ^^^ (if (bI (¬ ((p0_3 &&& (4 : Int32)) = (0 : Int32)))) = (0 : Int32) then (0 : Int32) else (255 : Int32))))])) _
    refine XS.iloadN X90.here hx rfl (hb hby at_187) rfl ?_
    show Steps p.tables e below (T90.setTop (mkF m 188 #[.val (.int p0_0), .val (.int p0_1), .val (.int p0_2), .val (.int p0_3), .val (.int (bI (¬ ((p0_3 &&& (1 : Int32)) = (0 : Int32))))), .val (.int (bI (¬ ((p0_3 &&& (2 : Int32)) = (0 : Int32))))), .val (.int (bI (¬ ((p0_3 &&& (4 : Int32)) = (0 : Int32))))), .val (.ref b16), .val (.ref b35), .val (.ref b35), .val (.int ((((p0_0.toInt8.toInt32)).toInt8.toInt32 &&& (255 : Int32)) ^^^ (if (bI (¬ ((p0_3 &&& (1 : Int32)) = (0 : Int32)))) = (0 : Int32) then (0 : Int32) else (255 : Int32)))), .val (.ref b35), .val (.int ((((p0_1.toInt8.toInt32)).toInt8.toInt32 &&& (255 : Int32)) ^^^ (if (bI (¬ ((p0_3 &&& (2 : Int32)) = (0 : Int32)))) = (0 : Int32) then (0 : Int32) else (255 : Int32)))), .val (.ref b35), .val (.int ((((p0_2.toInt8.toInt32)).toInt8.toInt32 &&& (255 : Int32)) ^^^ (if (bI (¬ ((p0_3 &&& (4 : Int32)) = (0 : Int32)))) = (0 : Int32) then (0 : Int32) else (255 : Int32))))] [(.int p0_2), (.int ((((p0_2.toInt8.toInt32)).toInt8.toInt32 &&& (255 : Int32)) ^^^ (if (bI (¬ ((p0_3 &&& (4 : Int32)) = (0 : Int32)))) = (0 : Int32) then (0 : Int32) else (255 : Int32))))])) _
    refine XS.iload X90.here hx rfl (hb hby at_188) rfl ?_
    show Steps p.tables e below (T90.setTop (mkF m 190 #[.val (.int p0_0), .val (.int p0_1), .val (.int p0_2), .val (.int p0_3), .val (.int (bI (¬ ((p0_3 &&& (1 : Int32)) = (0 : Int32))))), .val (.int (bI (¬ ((p0_3 &&& (2 : Int32)) = (0 : Int32))))), .val (.int (bI (¬ ((p0_3 &&& (4 : Int32)) = (0 : Int32))))), .val (.ref b16), .val (.ref b35), .val (.ref b35), .val (.int ((((p0_0.toInt8.toInt32)).toInt8.toInt32 &&& (255 : Int32)) ^^^ (if (bI (¬ ((p0_3 &&& (1 : Int32)) = (0 : Int32)))) = (0 : Int32) then (0 : Int32) else (255 : Int32)))), .val (.ref b35), .val (.int ((((p0_1.toInt8.toInt32)).toInt8.toInt32 &&& (255 : Int32)) ^^^ (if (bI (¬ ((p0_3 &&& (2 : Int32)) = (0 : Int32)))) = (0 : Int32) then (0 : Int32) else (255 : Int32)))), .val (.ref b35), .val (.int ((((p0_2.toInt8.toInt32)).toInt8.toInt32 &&& (255 : Int32)) ^^^ (if (bI (¬ ((p0_3 &&& (4 : Int32)) = (0 : Int32)))) = (0 : Int32) then (0 : Int32) else (255 : Int32))))] [(.int (bI (¬ ((p0_3 &&& (4 : Int32)) = (0 : Int32))))), (.int p0_2), (.int ((((p0_2.toInt8.toInt32)).toInt8.toInt32 &&& (255 : Int32)) ^^^ (if (bI (¬ ((p0_3 &&& (4 : Int32)) = (0 : Int32)))) = (0 : Int32) then (0 : Int32) else (255 : Int32))))])) _
    refine st96 _ ?_
    exact k)
  have hd99 : ((((p0_2.toInt8.toInt32)).toInt8.toInt32 &&& (255 : Int32)) ^^^ (if (bI (¬ ((p0_3 &&& (4 : Int32)) = (0 : Int32)))) = (0 : Int32) then (0 : Int32) else (255 : Int32))) = (if (bI (¬ ((p0_3 &&& (4 : Int32)) = (0 : Int32)))) = (0 : Int32) then (p0_2 &&& (255 : Int32)) else ((255 : Int32) - (p0_2 &&& (255 : Int32)))) := by
    exact own_fin _ _
  obtain ⟨fs, hr, hrun, hended, hW, hsame⟩ := X96.leave (v := some (.int (1 : Int32))) (fun h => by rw [Bd.returns] at h; cases h)
  refine ⟨_, _, pre98 _ ?_, hrun, hended, _, _, rfl, ?_, ⟨_, rfl⟩, hW, hsame.mono (by decide) (by decide)⟩
  · show Steps p.tables e below (T96.setTop (mkF m 193 #[.val (.int p0_0), .val (.int p0_1), .val (.int p0_2), .val (.int p0_3), .val (.int (bI (¬ ((p0_3 &&& (1 : Int32)) = (0 : Int32))))), .val (.int (bI (¬ ((p0_3 &&& (2 : Int32)) = (0 : Int32))))), .val (.int (bI (¬ ((p0_3 &&& (4 : Int32)) = (0 : Int32))))), .val (.ref b16), .val (.ref b35), .val (.ref b35), .val (.int ((((p0_0.toInt8.toInt32)).toInt8.toInt32 &&& (255 : Int32)) ^^^ (if (bI (¬ ((p0_3 &&& (1 : Int32)) = (0 : Int32)))) = (0 : Int32) then (0 : Int32) else (255 : Int32)))), .val (.ref b35), .val (.int ((((p0_1.toInt8.toInt32)).toInt8.toInt32 &&& (255 : Int32)) ^^^ (if (bI (¬ ((p0_3 &&& (2 : Int32)) = (0 : Int32)))) = (0 : Int32) then (0 : Int32) else (255 : Int32)))), .val (.ref b35), .val (.int ((((p0_2.toInt8.toInt32)).toInt8.toInt32 &&& (255 : Int32)) ^^^ (if (bI (¬ ((p0_3 &&& (4 : Int32)) = (0 : Int32)))) = (0 : Int32) then (0 : Int32) else (255 : Int32))))] [(.int (if (bI (¬ ((p0_3 &&& (4 : Int32)) = (0 : Int32)))) = (0 : Int32) then (p0_2 &&& (255 : Int32)) else ((255 : Int32) - (p0_2 &&& (255 : Int32))))), (.int ((((p0_2.toInt8.toInt32)).toInt8.toInt32 &&& (255 : Int32)) ^^^ (if (bI (¬ ((p0_3 &&& (4 : Int32)) = (0 : Int32)))) = (0 : Int32) then (0 : Int32) else (255 : Int32))))])) _
    refine XS.icmpNo X96.here hx rfl (hb hby at_193) rfl (teq hd99).2 ?_
    show Steps p.tables e below (T96.setTop (mkF m 196 #[.val (.int p0_0), .val (.int p0_1), .val (.int p0_2), .val (.int p0_3), .val (.int (bI (¬ ((p0_3 &&& (1 : Int32)) = (0 : Int32))))), .val (.int (bI (¬ ((p0_3 &&& (2 : Int32)) = (0 : Int32))))), .val (.int (bI (¬ ((p0_3 &&& (4 : Int32)) = (0 : Int32))))), .val (.ref b16), .val (.ref b35), .val (.ref b35), .val (.int ((((p0_0.toInt8.toInt32)).toInt8.toInt32 &&& (255 : Int32)) ^^^ (if (bI (¬ ((p0_3 &&& (1 : Int32)) = (0 : Int32)))) = (0 : Int32) then (0 : Int32) else (255 : Int32)))), .val (.ref b35), .val (.int ((((p0_1.toInt8.toInt32)).toInt8.toInt32 &&& (255 : Int32)) ^^^ (if (bI (¬ ((p0_3 &&& (2 : Int32)) = (0 : Int32)))) = (0 : Int32) then (0 : Int32) else (255 : Int32)))), .val (.ref b35), .val (.int ((((p0_2.toInt8.toInt32)).toInt8.toInt32 &&& (255 : Int32)) ^^^ (if (bI (¬ ((p0_3 &&& (4 : Int32)) = (0 : Int32)))) = (0 : Int32) then (0 : Int32) else (255 : Int32))))] [])) _
    refine XS.iconst X96.here hx rfl (hb hby at_196) ?_
    show Steps p.tables e below (T96.setTop (mkF m 197 #[.val (.int p0_0), .val (.int p0_1), .val (.int p0_2), .val (.int p0_3), .val (.int (bI (¬ ((p0_3 &&& (1 : Int32)) = (0 : Int32))))), .val (.int (bI (¬ ((p0_3 &&& (2 : Int32)) = (0 : Int32))))), .val (.int (bI (¬ ((p0_3 &&& (4 : Int32)) = (0 : Int32))))), .val (.ref b16), .val (.ref b35), .val (.ref b35), .val (.int ((((p0_0.toInt8.toInt32)).toInt8.toInt32 &&& (255 : Int32)) ^^^ (if (bI (¬ ((p0_3 &&& (1 : Int32)) = (0 : Int32)))) = (0 : Int32) then (0 : Int32) else (255 : Int32)))), .val (.ref b35), .val (.int ((((p0_1.toInt8.toInt32)).toInt8.toInt32 &&& (255 : Int32)) ^^^ (if (bI (¬ ((p0_3 &&& (2 : Int32)) = (0 : Int32)))) = (0 : Int32) then (0 : Int32) else (255 : Int32)))), .val (.ref b35), .val (.int ((((p0_2.toInt8.toInt32)).toInt8.toInt32 &&& (255 : Int32)) ^^^ (if (bI (¬ ((p0_3 &&& (4 : Int32)) = (0 : Int32)))) = (0 : Int32) then (0 : Int32) else (255 : Int32))))] [(.int (1 : Int32))])) _
    refine XS.goto X96.here hx rfl (pc0 := 197) (pc' := 201) rfl (hb hby at_197) (by decide) (by decide) ?_
    show Steps p.tables e below (T96.setTop (mkF m 201 #[.val (.int p0_0), .val (.int p0_1), .val (.int p0_2), .val (.int p0_3), .val (.int (bI (¬ ((p0_3 &&& (1 : Int32)) = (0 : Int32))))), .val (.int (bI (¬ ((p0_3 &&& (2 : Int32)) = (0 : Int32))))), .val (.int (bI (¬ ((p0_3 &&& (4 : Int32)) = (0 : Int32))))), .val (.ref b16), .val (.ref b35), .val (.ref b35), .val (.int ((((p0_0.toInt8.toInt32)).toInt8.toInt32 &&& (255 : Int32)) ^^^ (if (bI (¬ ((p0_3 &&& (1 : Int32)) = (0 : Int32)))) = (0 : Int32) then (0 : Int32) else (255 : Int32)))), .val (.ref b35), .val (.int ((((p0_1.toInt8.toInt32)).toInt8.toInt32 &&& (255 : Int32)) ^^^ (if (bI (¬ ((p0_3 &&& (2 : Int32)) = (0 : Int32)))) = (0 : Int32) then (0 : Int32) else (255 : Int32)))), .val (.ref b35), .val (.int ((((p0_2.toInt8.toInt32)).toInt8.toInt32 &&& (255 : Int32)) ^^^ (if (bI (¬ ((p0_3 &&& (4 : Int32)) = (0 : Int32)))) = (0 : Int32) then (0 : Int32) else (255 : Int32))))] [(.int (1 : Int32))])) _
    exact retN X96 hx (t := .boolean) Bd.returns (by simp) (hb hby at_201) hr
  · show Q0 Z p0_0 p0_1 p0_2 p0_3 h0 n0 _ T96.heap _
    rw [e96]
    exact ⟨rfl, N97⟩
set_option maxRecDepth 65536 in
set_option maxHeartbeats 40000000 in
theorem comes_1 {Post : Tables → Env → Array Value → State → Outcome → State → Prop} (hpost : ∀ tb e args s v u, (limb_1_1.after args s (.returned v) u = true ∧ limb_1_2.after args s (.returned v) u = true ∧ True) → FrameEnd s (.returned v) u (Jvm.fieldLocs frame_1_writes args s ++ Jvm.arrayLocs frame_1_arrays args s ++ Jvm.staticLocs frame_1_statics s) 16 128 → Post tb e args s (.returned v) u) :
    ArmFor flags0 classFile x code maxLocals ret World_1 tables_1 room_1 Calls_1 rest_1 Pre_1 Post := by
  intro l hfl _ _ p e ha hc hk s m args below hf hA hF happ hP
  obtain ⟨hcalls, hrest, hpre⟩ := hP
  obtain ⟨-, -, -, hnamed, -, -, -, hat⟩ := (Spec.applies_iff hf).mp happ
  obtain ⟨hg, hn⟩ := and_e (Cond.before_iff.mp (show (Jvm.Cond.and given_1 narrow_1).before args s = true from hpre))
  obtain ⟨g1, g2⟩ := and_e hg
  obtain ⟨g3, g4⟩ := and_e g2
  obtain ⟨g5, g6⟩ := and_e g4
  obtain ⟨g7, g8⟩ := and_e g6
  obtain ⟨w0, w1, w2, w3, rfl⟩ : ∃ w0 w1 w2 w3 : Value, args = #[w0, w1, w2, w3] := by
    have hs : args.size = 4 := by simpa [Cond.value, given_1] using g1
    obtain ⟨L⟩ := args
    match L, hs with
    | [w0, w1, w2, w3], _ => exact ⟨w0, w1, w2, w3, rfl⟩
  have hw := fun d (hd : d ∈ tables_1) => atoms_spec (ws := Jvm.Cond.code x code maxLocals ret :: tables_1) hat d (List.mem_cons_of_mem _ hd)
  have hfit : Fit s := fun {y c} hc i hi => by
    obtain ⟨ha, rfl⟩ := Array.getElem?_eq_some_iff.mp hc
    have q := List.all_eq_true.mp ((Array.all_eq_true_iff_forall_mem.mp hF) _ (Array.getElem_mem ha)) i (List.mem_range.mpr hi)
    simpa [Array.getElem?_eq_getElem hi] using q
  obtain ⟨i0, ei0⟩ := is_v g3
  obtain rfl : w0 = (.int i0) := Option.some.inj ei0
  obtain ⟨i1, ei1⟩ := is_v g5
  obtain rfl : w1 = (.int i1) := Option.some.inj ei1
  obtain ⟨i2, ei2⟩ := is_v g7
  obtain rfl : w2 = (.int i2) := Option.some.inj ei2
  obtain ⟨i3, ei3⟩ := is_v g8
  obtain rfl : w3 = (.int i3) := Option.some.inj ei3
  obtain ⟨n, o, h1, h2, h3, _, L, rfl, ⟨rfl, N⟩, hq⟩ := rm0 l s _ hw tables_1 i0 i1 i2 i3 s.heap s.heap.size (Nat.le_refl _)  p e ha hc hk s m _ below hf ((Spec.applies_iff_loose hf).mp happ).1 ⟨rfl, State.Warmed39.refl s, rfl⟩ trivial
  refine ⟨n, _, h1, h2, h3, hpost _ _ _ _ _ _ ⟨Cond.after_iff.mpr rfl, Cond.after_iff.mpr (eq_i res_at (Term.int_eval (1)) rfl), trivial⟩ ⟨hq.1, hq.2.1, (hq.2.2.sift fun y hy => Or.inr (N y hy)).mono (by decide) (by decide)⟩⟩
theorem main_1_1 : Claimed_1_1 := comes_1 fun _ _ _ _ _ _ h hF => ⟨h.1, hF⟩
theorem main_1_2 : Claimed_1_2 := comes_1 fun _ _ _ _ _ _ h hF => ⟨h.2.1, hF⟩
end Jvm.Pilot.@@N@@
namespace Jvm.Pilot.@@N@@
open Jvm Jvm.ClassFile Sem Op Lib Jvm.Free Jvm.Stand Jvm.Pilot.@@N@@.Jvm.D
/-! MADE BY PROGRAM (witnessworld.py) out of the Statement's table words and the real class files: 9 classes; the members and pool entries that the words name. The judged class is class 1, her method 2. -/
namespace start1
open Jvm.ClassFile
def u (s : String) : CpInfo := .utf8 (stringToUtf16 s)
/-- a pool by its gaps: so many unusable entries, then the entry; so many at the end -/
def gap : Nat → List CpInfo → List CpInfo
  | 0, r => r
  | n + 1, r => .unusable :: gap n r
def poolList (es : List (Nat × CpInfo)) (last : Nat) : List CpInfo := es.foldr (fun e r => gap e.1 (e.2 :: r)) (gap last [])
def pool (es : List (Nat × CpInfo)) (last : Nat) : Array CpInfo := ⟨poolList es last⟩
def fileOf (pool : Array CpInfo) (this : Nat) (attrs : Array Attribute := #[]) (ms : Array MethodInfo := #[]) (fl : Nat := 33) (sup : Nat := 0) (ifs : Array Nat := #[]) (fds : Array FieldInfo := #[]) : ClassFile where
  minorVersion := 0
  majorVersion := 65
  constantPool := pool
  accessFlags := fl
  thisClass := this
  superClass := sup
  interfaces := ifs
  fields := fds
  methods := ms
  attributes := attrs
def plain (name : String) (sup : Option ClassId) : Class where
  name := name
  kind := .ordinary
  loader := none
  accessFlags := 33
  super := sup
  interfaces := #[]
  cf := none
  fields := #[]
  methods := #[]
  instanceTypes := #[]
  staticTypes := #[]
  resolved := #[]
  callSites := []
  init := .initialized
  statics := none
  mirror := none

def pool0 : Array CpInfo := pool [(5, u "<init>"), (0, u "()V"), (1, .class_ 10), (1, u "java/lang/Object")] 113

def k0c0 : Code := { maxStack := 0, maxLocals := 1, code := object_method_1_code, exceptionTable := #[], attributes := #[] }
def k0m0 : Method := { name := "<init>", desc := "()V", sig := { parameters := [], returnType := none }, accessFlags := 1, code := some k0c0 }
/-- java/lang/Object -/
def k0 : Class := { plain "java/lang/Object" none with
  accessFlags := 33
  interfaces := #[]
  cf := some (fileOf pool0 8 #[] #[{ accessFlags := 1, nameIndex := 5, descriptorIndex := 6, attributes := #[] }] 33 0 #[] #[])
  fields := #[]
  methods := #[k0m0]
  instanceTypes := #[]
  staticTypes := #[]
  resolved := Array.replicate 124 none
  statics := none }

def pool1 : Array CpInfo := pool [(2, .class_ 4), (1, u "java/lang/Object"), (0, u "<init>"), (0, u "()V"), (0, .class_ 8), (0, u "com/example/libmosaic/libmosaic/encoding/ByteReader"), (0, .methodref 7 10), (0, .nameAndType 5 11), (0, u "([BI)V"), (0, .methodref 7 13), (0, .nameAndType 14 15), (0, u "complement"), (0, u "(Z)Lcom/example/libmosaic/libmosaic/encoding/ByteReader;"), (0, .methodref 7 17), (0, .nameAndType 18 19), (0, u "position"), (0, u "()I"), (0, .methodref 7 21), (0, .nameAndType 22 19), (0, u "read"), (0, .methodref 24 25), (0, .class_ 26), (0, .nameAndType 27 28), (0, u "com/example/libmosaic/libmosaic/encoding/ByteReaderComplementPinLaw"), (0, u "expect"), (0, u "(IZ)I"), (3, u "law"), (0, u "(IIII)Z")] 4

def k1m0 : Method := { name := "<init>", desc := "()V", sig := { parameters := [], returnType := none }, accessFlags := 1, code := none }
def k1c1 : Code := { maxStack := 2, maxLocals := 3, code := method_2_code, exceptionTable := #[], attributes := #[] }
def k1m1 : Method := { name := "expect", desc := "(IZ)I", sig := { parameters := [.int, .boolean], returnType := some .int }, accessFlags := 10, code := some k1c1 }
def k1c2 : Code := { maxStack := 4, maxLocals := 15, code := code, exceptionTable := #[], attributes := #[] }
def k1m2 : Method := { name := "law", desc := "(IIII)Z", sig := { parameters := [.int, .int, .int, .int], returnType := some .boolean }, accessFlags := 9, code := some k1c2 }
/-- com/example/libmosaic/libmosaic/encoding/ByteReaderComplementPinLaw -/
def k1 : Class := { plain "com/example/libmosaic/libmosaic/encoding/ByteReaderComplementPinLaw" (some 0) with
  accessFlags := 49
  interfaces := #[]
  cf := some (fileOf pool1 24 #[] #[{ accessFlags := 1, nameIndex := 5, descriptorIndex := 6, attributes := #[] }, { accessFlags := 10, nameIndex := 27, descriptorIndex := 28, attributes := #[] }, { accessFlags := 9, nameIndex := 32, descriptorIndex := 33, attributes := #[] }] 49 2 #[] #[])
  fields := #[]
  methods := #[k1m0, k1m1, k1m2]
  instanceTypes := #[]
  staticTypes := #[]
  resolved := Array.replicate 38 none
  statics := none }

def pool2 : Array CpInfo := pool [(1, .methodref 2 3), (0, .class_ 4), (0, .nameAndType 5 6), (0, u "java/lang/Object"), (0, u "<init>"), (0, u "()V"), (9, .fieldref 17 18), (0, .class_ 19), (0, .nameAndType 20 21), (0, u "com/example/libmosaic/libmosaic/encoding/ByteReader"), (0, u "bytes"), (0, u "[B"), (0, .fieldref 17 23), (0, .nameAndType 24 25), (0, u "position"), (0, u "I"), (0, .methodref 17 27), (0, .nameAndType 28 29), (0, u "require"), (0, u "(I)V"), (0, .fieldref 17 31), (0, .nameAndType 32 25), (0, u "complement"), (21, u "read"), (0, u "()I"), (18, u "([BI)V"), (7, u "(Z)Lcom/example/libmosaic/libmosaic/encoding/ByteReader;")] 21

def k2c0 : Code := { maxStack := 4, maxLocals := 3, code := prog_9_method_1_code, exceptionTable := #[], attributes := #[] }
def k2m0 : Method := { name := "<init>", desc := "([BI)V", sig := { parameters := [(.array .byte), .int], returnType := none }, accessFlags := 1, code := some k2c0 }
def k2c1 : Code := { maxStack := 5, maxLocals := 1, code := prog_9_method_2_code, exceptionTable := #[], attributes := #[] }
def k2m1 : Method := { name := "read", desc := "()I", sig := { parameters := [], returnType := some .int }, accessFlags := 1, code := some k2c1 }
def k2c2 : Code := { maxStack := 2, maxLocals := 2, code := prog_9_method_7_code, exceptionTable := #[], attributes := #[] }
def k2m2 : Method := { name := "complement", desc := "(Z)Lcom/example/libmosaic/libmosaic/encoding/ByteReader;", sig := { parameters := [.boolean], returnType := some (.object "com/example/libmosaic/libmosaic/encoding/ByteReader") }, accessFlags := 1, code := some k2c2 }
def k2c3 : Code := { maxStack := 1, maxLocals := 1, code := prog_9_method_8_code, exceptionTable := #[], attributes := #[] }
def k2m3 : Method := { name := "position", desc := "()I", sig := { parameters := [], returnType := some .int }, accessFlags := 1, code := some k2c3 }
def k2c4 : Code := { maxStack := 7, maxLocals := 2, code := prog_9_method_10_code, exceptionTable := #[], attributes := #[] }
def k2m4 : Method := { name := "require", desc := "(I)V", sig := { parameters := [.int], returnType := none }, accessFlags := 2, code := some k2c4 }
/-- com/example/libmosaic/libmosaic/encoding/ByteReader -/
def k2 : Class := { plain "com/example/libmosaic/libmosaic/encoding/ByteReader" (some 0) with
  accessFlags := 49
  interfaces := #[]
  cf := some (fileOf pool2 17 #[] #[{ accessFlags := 1, nameIndex := 5, descriptorIndex := 74, attributes := #[] }, { accessFlags := 1, nameIndex := 54, descriptorIndex := 55, attributes := #[] }, { accessFlags := 1, nameIndex := 32, descriptorIndex := 82, attributes := #[] }, { accessFlags := 1, nameIndex := 24, descriptorIndex := 55, attributes := #[] }, { accessFlags := 2, nameIndex := 28, descriptorIndex := 29, attributes := #[] }] 49 2 #[] #[{ accessFlags := 18, nameIndex := 20, descriptorIndex := 21, attributes := #[] }, { accessFlags := 2, nameIndex := 24, descriptorIndex := 25, attributes := #[] }, { accessFlags := 2, nameIndex := 32, descriptorIndex := 25, attributes := #[] }])
  fields := #[{ name := "bytes", type := (.array .byte), accessFlags := 18, slot := 0, constantValue := 0 }, { name := "position", type := .int, accessFlags := 2, slot := 1, constantValue := 0 }, { name := "complement", type := .int, accessFlags := 2, slot := 2, constantValue := 0 }]
  methods := #[k2m0, k2m1, k2m2, k2m3, k2m4]
  instanceTypes := #[(.array .byte), .int, .int]
  staticTypes := #[]
  resolved := Array.replicate 104 none
  statics := none }

def pool3 : Array CpInfo := pool [(1, u "java/lang/Cloneable"), (0, .class_ 1), (0, u "java/lang/Object"), (0, .class_ 3)] 3

/-- java/lang/Cloneable -/
def k3 : Class := { plain "java/lang/Cloneable" (some 0) with
  accessFlags := 1537
  interfaces := #[]
  cf := some (fileOf pool3 2 #[] #[] 1537 4 #[] #[])
  fields := #[]
  methods := #[]
  instanceTypes := #[]
  staticTypes := #[]
  resolved := Array.replicate 8 none
  statics := none }

def pool4 : Array CpInfo := pool [(1, u "java/io/Serializable"), (0, .class_ 1), (0, u "java/lang/Object"), (0, .class_ 3)] 3

/-- java/io/Serializable -/
def k4 : Class := { plain "java/io/Serializable" (some 0) with
  accessFlags := 1537
  interfaces := #[]
  cf := some (fileOf pool4 2 #[] #[] 1537 4 #[] #[])
  fields := #[]
  methods := #[]
  instanceTypes := #[]
  staticTypes := #[]
  resolved := Array.replicate 8 none
  statics := none }

/-- the primitive byte -/
def k5 : Class := { plain "byte" none with kind := .primitive 'B', accessFlags := 0x411 }
/-- [B -/
def k6 : Class := { plain "[B" (some 0) with kind := .array 5 .byte, interfaces := #[3, 4], accessFlags := 1041 }

/-- the primitive int -/
def k7 : Class := { plain "int" none with kind := .primitive 'I', accessFlags := 0x411 }
/-- [I -/
def k8 : Class := { plain "[I" (some 0) with kind := .array 7 .int, interfaces := #[3, 4], accessFlags := 1041 }

def heap : Heap := #[]
def classes : Array Class := #[k0, k1, k2, k3, k4, k5, k6, k7, k8]
def interned : List (Array UInt16 × Addr) := []
def slotsUsed : Nat := 0
def theMethod : MethodId := ⟨1, 2⟩
def args0 : Array Value := #[.int 5, .int 6, .int 7, .int 3]
def aboutOver (below : List Frame) : State where
  vm := { classes := classes, interned := interned.toArray }
  heap := heap
  slotsUsed := slotsUsed
  threads := #[{ frames := .invoking theMethod args0 :: below }]
def below0 : List Frame := [.native { method := ⟨0, 0⟩, args := #[] }]
def about1 : State := aboutOver below0
def p0 : Program := .bare "" "" ""
def e0 : Env := launch0.env 0 0 0
theorem w_frames : about1.frames = Frame.invoking theMethod args0 :: below0 := rfl
set_option maxRecDepth 65536 in
theorem w_args : argsFit about1.vm theMethod args0 = true := by decide +kernel
set_option maxRecDepth 65536 in
theorem w_heap : heapFits about1 = true := by decide +kernel
set_option maxRecDepth 65536 in
theorem w_runnable : about1.curStatus? = some .runnable := by decide +kernel
set_option maxRecDepth 65536 in
theorem w_alone : about1.alone = true := by decide +kernel
set_option maxRecDepth 65536 in
theorem w_named : about1.methodNamed? x = some theMethod := by decide +kernel
set_option maxRecDepth 65536 in
theorem w_hears : about1.hears theMethod below0 = true := by decide +kernel
set_option maxRecDepth 65536 in
theorem w_ripe : about1.ripe theMethod args0 below0 = true := by decide +kernel
theorem w_running : about1.status = .running := rfl
set_option maxRecDepth 65536 in
theorem w_room : about1.hasRoom e0.platform room_1 = true :=
  launch0.hasRoom_least _ room_1 (by decide +kernel) (by decide +kernel) (by decide +kernel) (by decide +kernel) (by decide +kernel) (by decide +kernel)
theorem allAtoms_all (ts : List Jvm.Cond) (a : Array Jvm.Value) (st : Jvm.State) : (allAtoms ts).before a st = ts.all (fun c => c.before a st) := by
  induction ts with
  | nil => rfl
  | cons c t ih =>
    show (Jvm.Cond.and c (allAtoms t)).before a st = _
    rw [Jvm.Cond.before_and, ih, List.all_cons]
def words1 : List Jvm.Cond := Jvm.Cond.code x code maxLocals ret :: tables_1
/-- a 'code' word, met by the world's own term for the bytes: nothing is compared byte by byte -/
theorem code_word {y : MethodName} {bytes : ByteArray} {mx : Nat} {rt : Option FieldType} {a : Array Value} {s : State} {m : MethodId} {meth : Method} {c : Code} (h1 : s.methodNamed? y = some m) (h2 : s.vm.method? m = some meth) (h3 : meth.code = some c) (h4 : c.code = bytes)
    (h5 : (c.maxLocals == mx && c.exceptionTable.isEmpty && decide (c.maxStack ≤ mostOperands) && decide (meth.sig.returnType = rt) && !meth.locks && decide (parseMethodDescriptor y.desc = some meth.sig)) = true) : (Jvm.Cond.code y bytes mx rt).before a s = true := by
  simp only [Bool.and_eq_true, beq_iff_eq, Bool.not_eq_true', decide_eq_true_eq] at h5
  obtain ⟨⟨⟨⟨⟨g1, g2⟩, g3⟩, g4⟩, g5⟩, g6⟩ := h5
  simp [Cond.before, Cond.holds, Cond.value, h1, h2, h3, h4, g1, g2, g3, g4, g5, g6]
def isCode : Jvm.Cond → Bool
  | .code _ _ _ _ => true
  | _ => false
theorem all_split {L : List Jvm.Cond} {P : Jvm.Cond → Bool} (h1 : L.all (fun c => isCode c || P c) = true) (h2 : ∀ c ∈ L.filter isCode, P c = true) : L.all P = true := by
  refine List.all_eq_true.mpr fun c hc => ?_
  have h := List.all_eq_true.mp h1 c hc
  rcases Bool.eq_false_or_eq_true (isCode c) with hi | hi
  · exact h2 c (List.mem_filter.mpr ⟨hc, hi⟩)
  · simpa [hi] using h
set_option maxRecDepth 65536 in
theorem w_c0 : (Jvm.Cond.code x code maxLocals ret).before args0 about1 = true := code_word (m := ⟨1, 2⟩) (meth := k1m2) (c := k1c2) (by decide +kernel) rfl rfl rfl (by decide +kernel)
set_option maxRecDepth 65536 in
theorem w_c1 : (Jvm.Cond.code ({ cls := "com/example/libmosaic/libmosaic/encoding/ByteReader", name := "<init>", desc := "([BI)V" } : Jvm.MethodName) prog_9_method_1_code (3 : Nat) (Option.none : Option Jvm.ClassFile.FieldType)).before args0 about1 = true := code_word (m := ⟨2, 0⟩) (meth := k2m0) (c := k2c0) (by decide +kernel) rfl rfl rfl (by decide +kernel)
set_option maxRecDepth 65536 in
theorem w_c2 : (Jvm.Cond.code ({ cls := "java/lang/Object", name := "<init>", desc := "()V" } : Jvm.MethodName) object_method_1_code (1 : Nat) (Option.none : Option Jvm.ClassFile.FieldType)).before args0 about1 = true := code_word (m := ⟨0, 0⟩) (meth := k0m0) (c := k0c0) (by decide +kernel) rfl rfl rfl (by decide +kernel)
set_option maxRecDepth 65536 in
theorem w_c3 : (Jvm.Cond.code ({ cls := "com/example/libmosaic/libmosaic/encoding/ByteReader", name := "complement", desc := "(Z)Lcom/example/libmosaic/libmosaic/encoding/ByteReader;" } : Jvm.MethodName) prog_9_method_7_code (2 : Nat) (Option.some (Jvm.ClassFile.FieldType.object "com/example/libmosaic/libmosaic/encoding/ByteReader"))).before args0 about1 = true := code_word (m := ⟨2, 2⟩) (meth := k2m2) (c := k2c2) (by decide +kernel) rfl rfl rfl (by decide +kernel)
set_option maxRecDepth 65536 in
theorem w_c4 : (Jvm.Cond.code ({ cls := "com/example/libmosaic/libmosaic/encoding/ByteReader", name := "position", desc := "()I" } : Jvm.MethodName) prog_9_method_8_code (1 : Nat) (Option.some Jvm.ClassFile.FieldType.int)).before args0 about1 = true := code_word (m := ⟨2, 3⟩) (meth := k2m3) (c := k2c3) (by decide +kernel) rfl rfl rfl (by decide +kernel)
set_option maxRecDepth 65536 in
theorem w_c5 : (Jvm.Cond.code ({ cls := "com/example/libmosaic/libmosaic/encoding/ByteReader", name := "read", desc := "()I" } : Jvm.MethodName) prog_9_method_2_code (1 : Nat) (Option.some Jvm.ClassFile.FieldType.int)).before args0 about1 = true := code_word (m := ⟨2, 1⟩) (meth := k2m1) (c := k2c1) (by decide +kernel) rfl rfl rfl (by decide +kernel)
set_option maxRecDepth 65536 in
theorem w_c6 : (Jvm.Cond.code ({ cls := "com/example/libmosaic/libmosaic/encoding/ByteReader", name := "require", desc := "(I)V" } : Jvm.MethodName) prog_9_method_10_code (2 : Nat) (Option.none : Option Jvm.ClassFile.FieldType)).before args0 about1 = true := code_word (m := ⟨2, 4⟩) (meth := k2m4) (c := k2c4) (by decide +kernel) rfl rfl rfl (by decide +kernel)
set_option maxRecDepth 65536 in
theorem w_c7 : (Jvm.Cond.code ({ cls := "com/example/libmosaic/libmosaic/encoding/ByteReaderComplementPinLaw", name := "expect", desc := "(IZ)I" } : Jvm.MethodName) method_2_code (3 : Nat) (Option.some Jvm.ClassFile.FieldType.int)).before args0 about1 = true := code_word (m := ⟨1, 1⟩) (meth := k1m1) (c := k1c1) (by decide +kernel) rfl rfl rfl (by decide +kernel)
def codes1 : List Jvm.Cond := [Jvm.Cond.code x code maxLocals ret, Jvm.Cond.code ({ cls := "com/example/libmosaic/libmosaic/encoding/ByteReader", name := "<init>", desc := "([BI)V" } : Jvm.MethodName) prog_9_method_1_code (3 : Nat) (Option.none : Option Jvm.ClassFile.FieldType), Jvm.Cond.code ({ cls := "java/lang/Object", name := "<init>", desc := "()V" } : Jvm.MethodName) object_method_1_code (1 : Nat) (Option.none : Option Jvm.ClassFile.FieldType), Jvm.Cond.code ({ cls := "com/example/libmosaic/libmosaic/encoding/ByteReader", name := "complement", desc := "(Z)Lcom/example/libmosaic/libmosaic/encoding/ByteReader;" } : Jvm.MethodName) prog_9_method_7_code (2 : Nat) (Option.some (Jvm.ClassFile.FieldType.object "com/example/libmosaic/libmosaic/encoding/ByteReader")), Jvm.Cond.code ({ cls := "com/example/libmosaic/libmosaic/encoding/ByteReader", name := "position", desc := "()I" } : Jvm.MethodName) prog_9_method_8_code (1 : Nat) (Option.some Jvm.ClassFile.FieldType.int), Jvm.Cond.code ({ cls := "com/example/libmosaic/libmosaic/encoding/ByteReader", name := "read", desc := "()I" } : Jvm.MethodName) prog_9_method_2_code (1 : Nat) (Option.some Jvm.ClassFile.FieldType.int), Jvm.Cond.code ({ cls := "com/example/libmosaic/libmosaic/encoding/ByteReader", name := "require", desc := "(I)V" } : Jvm.MethodName) prog_9_method_10_code (2 : Nat) (Option.none : Option Jvm.ClassFile.FieldType), Jvm.Cond.code ({ cls := "com/example/libmosaic/libmosaic/encoding/ByteReaderComplementPinLaw", name := "expect", desc := "(IZ)I" } : Jvm.MethodName) method_2_code (3 : Nat) (Option.some Jvm.ClassFile.FieldType.int)]
set_option maxRecDepth 65536 in
theorem codes_eq : words1.filter isCode = codes1 := rfl
theorem w_codes : ∀ c ∈ words1.filter isCode, c.before args0 about1 = true := by
  rw [codes_eq]
  intro c hc
  simp only [codes1, List.mem_cons, List.not_mem_nil, or_false] at hc
  rcases hc with rfl | rfl | rfl | rfl | rfl | rfl | rfl | rfl
  · exact w_c0
  · exact w_c1
  · exact w_c2
  · exact w_c3
  · exact w_c4
  · exact w_c5
  · exact w_c6
  · exact w_c7
set_option maxRecDepth 65536 in
theorem w_t1 : (words1.take 24).all (fun c => isCode c || c.before args0 about1) = true := by decide +kernel
set_option maxRecDepth 65536 in
theorem w_t2 : (words1.drop 24).all (fun c => isCode c || c.before args0 about1) = true := by decide +kernel
theorem w_tables : (allAtoms (Jvm.Cond.code x code maxLocals ret :: tables_1)).before args0 about1 = true := by
  rw [allAtoms_all]
  show words1.all (fun c => c.before args0 about1) = true
  refine all_split ?_ w_codes
  rw [← List.take_append_drop 24 words1, List.all_append, w_t1, w_t2]
  rfl
set_option maxRecDepth 65536 in
theorem w_case : (Jvm.Cond.and given_1 narrow_1).before args0 about1 = true := by decide +kernel
theorem w_applies : (headSpec (Jvm.Cond.code x code maxLocals ret :: tables_1) room_1).applies x e0.platform about1 = true :=
  (Spec.applies_iff w_frames).mpr ⟨w_running, w_runnable, w_alone, w_named, w_hears, w_ripe, w_room, w_tables⟩
theorem atStart : AtStart classFile x code maxLocals ret World_1 tables_1 room_1 Calls_1 rest_1 Pre_1 launch0 p0 e0 about1 theMethod args0 below0 :=
  ⟨lists_1, trivial, launch0.admits_env _ _ _, launch0.least_env, fairChoices_fair.cas, fairChoices_fair.clock, w_frames, w_args, w_heap, w_applies, trivial, trivial, w_case⟩
end start1
theorem witness_1 : WitnessClaimed_1 := ⟨start1.p0, start1.e0, start1.about1, start1.theMethod, start1.args0, start1.below0, start1.atStart⟩
end Jvm.Pilot.@@N@@
